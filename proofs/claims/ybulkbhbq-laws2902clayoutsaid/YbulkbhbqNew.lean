/- The contract of newValue. -/
import Derived.Test.YbulkbhbqBits
import Derived.Deep.RegionHeld3
import Derived.Deep.DeepCutAuto
namespace Go.Proofs.Ybulkbhbq
open Go.ChangeShapes Go.WideShapes Go.ChangeAt Go.RowKit
open Plain
set_option linter.unusedVariables false

theorem Fmt.below {w w' : World} {F e n : Nat} {ex : Bool} (h : Fmt w F e n ex) (hb : Below w.heap.size w w') : Fmt w' F e n ex :=
  ⟨(hb.cell (p := ⟨F, 2, none⟩) (World.block_lt_of_cell? _ _ h.c2)).trans h.c2, (hb.cell (p := ⟨F, 3, none⟩) (World.block_lt_of_cell? _ _ h.c3)).trans h.c3, (hb.cell (p := ⟨F, 4, none⟩) (World.block_lt_of_cell? _ _ h.c4)).trans h.c4⟩
theorem width_w (F e n wd : Nat) (ex : Bool) (he : e < 16) (hn : n < 128) (hwd : 1 + e + n = wd) (w : World) (h : Fmt w F e n ex) :
    Calls Yba.prog 13 #[.pointer (some ⟨F, 0, none⟩)] w fun r w' => r = .returned (.int .i64 wd) ∧ ∃ k, w' = w.drewN k := by
  subst hwd
  refine (width_calls F e n ex he hn w h).mono fun r w' ⟨hr, hw⟩ => ⟨?_, hw⟩
  rw [hr]
  congr 2

theorem lsh_one (wd : Nat) (h1 : 1 ≤ wd) (h : wd ≤ 128) (w : World) :
    Calls Yba.prog 14 #[.agg #[.int .u64 0, .int .u64 1], .int .u64 ((wd : Int) - 1)] w fun e w' => e = .returned (two (lshHi 0 1 (wd - 1)) (lshLo 1 (wd - 1))) ∧ New2 w w' := by
  have e1 : (wd : Int) - 1 = ((wd - 1 : Nat) : Int) := by omega
  rw [e1]
  exact lsh_calls 0 1 (wd - 1) (by decide) (by omega) w

/-- the pattern's two words lie in the value -/
abbrev val (F : Nat) (x y : Int) : Value := .agg #[.pointer (some ⟨F, 0, none⟩), .int .u64 x, .int .u64 y]

set_option maxHeartbeats 1000000 in
theorem nv_word (F e n wd u sh sl : Nat) (ex : Bool) (b : Int) (w : World) (h : Fmt w F e n ex) (he : e < 16) (hn : n < 128) (hwd : 1 + e + n = wd) (hu : IntKind.u64.wrap b = (u : Int)) (hw : (wd : Int) ≤ 64) :
    Calls Yba.prog 7 #[.pointer (some ⟨F, 0, none⟩), .bool false, .int .i64 b, two sh sl] w fun e' w' =>
      e' = .returned (val F 0 (bits .or .u64 (IntKind.u64.wrap ((u : Int) * 2 ^ n)) (bits .and .u64 (sl : Int) (IntKind.u64.wrap (IntKind.u64.wrap (2 ^ n) - 1))))) ∧ Below w.heap.size w w' := by
  have HF : Hid (Fmt w F e n ex ∧ 1 + e + n = wd) := ⟨h, hwd⟩
  have hn6 : n < 64 := by omega
  clear h hwd
  go_enter Yba.func7, Yba.ntmps7
  go_wp2_with fail
  refine (sb_calls F e n ex hn _ (HF.out.1.below (by exact ((Below.refl _ _).alloc (Nat.le_refl _) _).alloc (by simp) _))).mono ?_
  rintro e1 w1 ⟨rfl, rfl⟩
  go_wp2_with fail
  refine (width_w F e n wd ex he hn HF.out.2 _ (HF.out.1.below (by exact ((Below.refl _ _).alloc (Nat.le_refl _) _).alloc (by simp) _))).mono ?_
  rintro e1 w1 ⟨rfl, k, rfl⟩
  go_wp2
  refine bodyPost_ret (v := val F 0 (bits .or .u64 (IntKind.u64.wrap ((u : Int) * 2 ^ n)) (bits .and .u64 (sl : Int) (IntKind.u64.wrap (IntKind.u64.wrap (2 ^ n) - 1))))) (by simp [results, Yba.results7, go_sem]) rfl ⟨rfl, ?_⟩
  exact (((((((Below.refl _ _).alloc (Nat.le_refl _) _).alloc (by simp) _).trans (below_drewN (Below.refl _ _) k)).setCell (by simp) _).setCell (by simp) _).setCell (by simp) _)

set_option maxHeartbeats 1000000 in
theorem nv_word_neg (F e n wd u sh sl : Nat) (ex : Bool) (b : Int) (w : World) (h : Fmt w F e n ex) (he : e < 16) (hn : n < 128) (hwd : 1 + e + n = wd) (hu : IntKind.u64.wrap b = (u : Int)) (hw : (wd : Int) ≤ 64) (hw1 : 1 ≤ (wd : Int)) :
    Calls Yba.prog 7 #[.pointer (some ⟨F, 0, none⟩), .bool true, .int .i64 b, two sh sl] w fun e' w' =>
      e' = .returned (val F 0 (bits .or .u64 (bits .or .u64 (IntKind.u64.wrap ((u : Int) * 2 ^ n)) (bits .and .u64 (sl : Int) (IntKind.u64.wrap (IntKind.u64.wrap (2 ^ n) - 1)))) (IntKind.u64.wrap (2 ^ (wd - 1))))) ∧ Below w.heap.size w w' := by
  have HF : Hid (Fmt w F e n ex ∧ 1 + e + n = wd) := ⟨h, hwd⟩
  have hn6 : n < 64 := by omega
  clear h hwd
  go_enter Yba.func7, Yba.ntmps7
  go_wp2_with fail
  refine (sb_calls F e n ex hn _ (HF.out.1.below (by exact ((Below.refl _ _).alloc (Nat.le_refl _) _).alloc (by simp) _))).mono ?_
  rintro e1 w1 ⟨rfl, rfl⟩
  go_wp2_with fail
  refine (width_w F e n wd ex he hn HF.out.2 _ (HF.out.1.below (by exact ((Below.refl _ _).alloc (Nat.le_refl _) _).alloc (by simp) _))).mono ?_
  rintro e1 w1 ⟨rfl, k, rfl⟩
  go_wp2
  refine bodyPost_ret (v := val F 0 (bits .or .u64 (bits .or .u64 (IntKind.u64.wrap ((u : Int) * 2 ^ n)) (bits .and .u64 (sl : Int) (IntKind.u64.wrap (IntKind.u64.wrap (2 ^ n) - 1)))) (IntKind.u64.wrap (2 ^ (wd - 1))))) (by simp [results, Yba.results7, go_sem]) rfl ⟨rfl, ?_⟩
  exact (((((((Below.refl _ _).alloc (Nat.le_refl _) _).alloc (by simp) _).trans (below_drewN (Below.refl _ _) k)).setCell (by simp) _).setCell (by simp) _).setCell (by simp) _)

/-- the world in which the wide way begins -/
abbrev nvStart (w : World) (sh sl k : Nat) : World :=
  ((w.alloc (.cells #[.int .u64 sh, .int .u64 sl] 31)).alloc (.cells #[.pointer none, .int .u64 0, .int .u64 0] 33)).drewN k
theorem nvStart_below (w : World) (sh sl k : Nat) : Below w.heap.size w (nvStart w sh sl k) := below_drewN (((Below.refl _ _).alloc (Nat.le_refl _) _).alloc (by simp) _) k
theorem nvStart_size (w : World) (sh sl k : Nat) : (nvStart w sh sl k).heap.size = w.heap.size + 2 := by
  show (World.alloc _ _).heap.size = _
  simp
theorem nvStart_res (w : World) (sh sl k j : Nat) (v : Value) (h : (#[Value.pointer none, .int .u64 0, .int .u64 0] : Array Value)[j]? = some v) : (nvStart w sh sl k).cell? ⟨w.heap.size + 1, j, none⟩ = some v := by
  show (World.alloc _ _).cell? _ = _
  rw [World.cell?_alloc_at _ _ _ _ (by simp)]
  exact h
theorem nvStart_frozen (w : World) (sh sl k j : Nat) : (nvStart w sh sl k).frozen? ⟨w.heap.size + 1, j, none⟩ = false := by
  show (World.alloc _ _).frozen? _ = _
  exact World.frozen?_alloc_at _ _ _ _ (by simp)

/-- the two-word number b, behind its making -/
structure Made (w : World) (sh sl k : Nat) (wx : World) (L : Nat) (x y : Nat) : Prop where
  far : w.heap.size + 1 < L
  c0 : wx.cell? ⟨L, 0, none⟩ = some (.int .u64 x)
  c1 : wx.cell? ⟨L, 1, none⟩ = some (.int .u64 y)
  f0 : wx.frozen? ⟨L, 0, none⟩ = false
  f1 : wx.frozen? ⟨L, 1, none⟩ = false
  bel : Below (w.heap.size + 2) (nvStart w sh sl k) wx

/-- what the rest of the wide way asks of memory: the number b at L, the result's own block -/
structure Endd (w wx : World) (L : Nat) (x y : Int) : Prop where
  c0 : wx.cell? ⟨L, 0, none⟩ = some (.int .u64 x)
  c1 : wx.cell? ⟨L, 1, none⟩ = some (.int .u64 y)
  g0 : wx.frozen? ⟨L, 0, none⟩ = false
  g1 : wx.frozen? ⟨L, 1, none⟩ = false
  r0 : wx.cell? ⟨w.heap.size + 1, 0, none⟩ = some (.pointer none)
  r1 : wx.cell? ⟨w.heap.size + 1, 1, none⟩ = some (.int .u64 0)
  r2 : wx.cell? ⟨w.heap.size + 1, 2, none⟩ = some (.int .u64 0)
  f0 : wx.frozen? ⟨w.heap.size + 1, 0, none⟩ = false
  f1 : wx.frozen? ⟨w.heap.size + 1, 1, none⟩ = false
  f2 : wx.frozen? ⟨w.heap.size + 1, 2, none⟩ = false
  far : L ≠ w.heap.size + 1
  up : w.heap.size ≤ L
  bel : Below w.heap.size w wx
theorem Endd.step {w wx w1 : World} {L : Nat} {x y : Int} (h : Endd w wx L x y) (hb : Below wx.heap.size wx w1) : Endd w w1 L x y := by
  have hL := World.block_lt_of_cell? _ _ h.c0
  have hR := World.block_lt_of_cell? _ _ h.r0
  simp only at hL hR
  exact ⟨(hb.cell (p := ⟨L, 0, none⟩) hL).trans h.c0, (hb.cell (p := ⟨L, 1, none⟩) hL).trans h.c1, (hb.frozen (p := ⟨L, 0, none⟩) hL).trans h.g0, (hb.frozen (p := ⟨L, 1, none⟩) hL).trans h.g1,
    (hb.cell (p := ⟨w.heap.size + 1, 0, none⟩) hR).trans h.r0, (hb.cell (p := ⟨w.heap.size + 1, 1, none⟩) hR).trans h.r1, (hb.cell (p := ⟨w.heap.size + 1, 2, none⟩) hR).trans h.r2,
    (hb.frozen (p := ⟨w.heap.size + 1, 0, none⟩) hR).trans h.f0, (hb.frozen (p := ⟨w.heap.size + 1, 1, none⟩) hR).trans h.f1, (hb.frozen (p := ⟨w.heap.size + 1, 2, none⟩) hR).trans h.f2, h.far, h.up, h.bel.trans (hb.mono (by omega))⟩
theorem Endd.store {w wx : World} {L : Nat} {x y : Int} (h : Endd w wx L x y) (x' y' : Int) : Endd w ((wx.setCell ⟨L, 0, none⟩ (.int .u64 x')).setCell ⟨L, 1, none⟩ (.int .u64 y')) L x' y' := by
  have ne : ∀ (i j : Nat), (⟨L, i, none⟩ : Addr) ≠ ⟨w.heap.size + 1, j, none⟩ := fun i j e => h.far (by simpa using congrArg Addr.block e)
  have r : ∀ j, ((wx.setCell ⟨L, 0, none⟩ (.int .u64 x')).setCell ⟨L, 1, none⟩ (.int .u64 y')).cell? ⟨w.heap.size + 1, j, none⟩ = wx.cell? ⟨w.heap.size + 1, j, none⟩ := fun j => by
    rw [World.cell?_setCell_other _ _ _ _ (ne 1 j), World.cell?_setCell_other _ _ _ _ (ne 0 j)]
  refine ⟨?_, ?_, by simpa using h.g0, by simpa using h.g1, (r 0).trans h.r0, (r 1).trans h.r1, (r 2).trans h.r2, by simpa using h.f0, by simpa using h.f1, by simpa using h.f2, h.far, h.up, (h.bel.setCell h.up _).setCell h.up _⟩
  · rw [World.cell?_setCell_other _ _ _ _ (by simp)]
    exact World.cell?_setCell_same _ _ _ h.c0
  · exact World.cell?_setCell_same (u := .int .u64 y) _ _ _ (by rw [World.cell?_setCell_other _ _ _ _ (by simp)]; exact h.c1)
theorem new2_below {w w' : World} (h : New2 w w') : Below w.heap.size w w' := by
  obtain ⟨c1, c2, rfl⟩ := h
  exact ((Below.refl _ _).alloc (Nat.le_refl _) _).alloc (by simp) _
theorem new3_below {w w' : World} (h : New3 w w') : Below w.heap.size w w' := by
  obtain ⟨c1, c2, c3, rfl⟩ := h
  exact (((Below.refl _ _).alloc (Nat.le_refl _) _).alloc (by simp) _).alloc (by simp; omega) _

set_option maxHeartbeats 4000000 in
theorem nv_wide (F e n wd u sh sl : Nat) (ex neg : Bool) (b : Int) (w : World) (h : Fmt w F e n ex) (he : e < 16) (hn : n < 128) (hwd : 1 + e + n = wd) (hu : IntKind.u64.wrap b = (u : Int)) (hul : u < W64) (hsh : sh < W64) (hsl : sl < W64) (hw : ¬ (wd : Int) ≤ 64) (hw2 : wd ≤ 128) :
    Calls Yba.prog 7 #[.pointer (some ⟨F, 0, none⟩), .bool neg, .int .i64 b, two sh sl] w fun e' w' =>
      e' = .returned (val F ((nvHi neg u sh n wd : Nat) : Int) ((nvLo neg u sl n wd : Nat) : Int)) ∧ Below w.heap.size w w' := by
  have HF : Hid (Fmt w F e n ex ∧ 1 + e + n = wd) := ⟨h, hwd⟩
  have hn6 : (wd : Int) ≤ 200 := by omega
  clear h hwd
  go_enter Yba.func7, Yba.ntmps7
  go_wp2_with fail
  refine (sb_calls F e n ex hn _ (HF.out.1.below (by exact ((Below.refl _ _).alloc (Nat.le_refl _) _).alloc (by simp) _))).mono ?_
  rintro e1 w1 ⟨rfl, rfl⟩
  go_wp2_with fail
  refine (width_w F e n wd ex he hn HF.out.2 _ (HF.out.1.below (by exact ((Below.refl _ _).alloc (Nat.le_refl _) _).alloc (by simp) _))).mono ?_
  rintro e1 w1 ⟨rfl, k, rfl⟩
  go_upto_region 8 with (fail)
  go_cut [12] (fun s12 wx => ∃ L : Nat, s12 = .pointer (some ⟨L, 0, none⟩) ∧ Made w sh sl k wx L (lshHi 0 u n ||| lowHi sh n) (lshLo u n ||| lowLo sl n))
  case first =>
    go_region_held3 (fun w' => w'.cell? ⟨w.heap.size, 0, none⟩ = some (.int .u64 sh) ∧ w'.cell? ⟨w.heap.size, 1, none⟩ = some (.int .u64 sl)) (simp [go_sem, World.cell?_alloc_past])
      (first
        | (go_at_call 14; refine (lsh_calls 0 u n hul hn _).mono ?_; rintro e w' ⟨rfl, o1, o2, rfl⟩)
        | (go_at_call 16; refine (low_calls sh sl n hsh hsl hn _).mono ?_; rintro e w' ⟨rfl, o1, o2, rfl⟩)
        | (go_at_call 15; refine (or_calls _ _ _ _ (lshHi_lt _ _ _ hul) (lshLo_lt _ _) (lowHi_lt _ _ hsh) (lowLo_lt _ _ hsl) _).mono ?_; rintro e w' ⟨rfl, o1, o2, o3, rfl⟩))
    all_goals
      go_wp2
      go_meet
      case rel =>
        refine ⟨_, rfl, ⟨by omega, by go_simp, by go_simp, by go_simp, by go_simp, ?_⟩⟩
        repeat (first | exact ⟨rfl, rfl, rfl, Nat.le_refl _, fun _ _ => rfl⟩ | refine Below.alloc ?_ (by first | (simp; done) | (simp; omega)) _ | refine below_drewN ?_ _ | refine Below.drew ?_)
  case rest =>
    obtain ⟨L, rfl, hM⟩ := hcut
    have hz := nvStart_size w sh sl k
    have m0 := hM.c0
    have m1 := hM.c1
    have r0 := (hM.bel.cell (p := ⟨w.heap.size + 1, 0, none⟩) (by simp)).trans (nvStart_res w sh sl k 0 _ rfl)
    have r1 := (hM.bel.cell (p := ⟨w.heap.size + 1, 1, none⟩) (by simp)).trans (nvStart_res w sh sl k 1 _ rfl)
    have r2 := (hM.bel.cell (p := ⟨w.heap.size + 1, 2, none⟩) (by simp)).trans (nvStart_res w sh sl k 2 _ rfl)
    have f0 := (hM.bel.frozen (p := ⟨w.heap.size + 1, 0, none⟩) (by simp)).trans (nvStart_frozen w sh sl k 0)
    have f1 := (hM.bel.frozen (p := ⟨w.heap.size + 1, 1, none⟩) (by simp)).trans (nvStart_frozen w sh sl k 1)
    have f2 := (hM.bel.frozen (p := ⟨w.heap.size + 1, 2, none⟩) (by simp)).trans (nvStart_frozen w sh sl k 2)
    have hbw : Below w.heap.size w wc := (nvStart_below w sh sl k).trans (hM.bel.mono (by omega))
    have HM : Hid (Below w.heap.size w wc) := hbw
    have hwn : ¬ wd ≤ 64 := by omega
    cases neg
    · have HE : Hid (nvHi false u sh n wd = lshHi 0 u n ||| lowHi sh n ∧ nvLo false u sl n wd = lshLo u n ||| lowLo sl n) := by
        refine ⟨?_, ?_⟩ <;> simp only [nvHi, nvLo, if_neg hwn, Bool.false_eq_true, if_false]
      clear hM hz hbw hwn
      go_wp2
      refine bodyPost_ret (v := val F ((lshHi 0 u n ||| lowHi sh n : Nat) : Int) ((lshLo u n ||| lowLo sl n : Nat) : Int)) (by simp [results, Yba.results7, go_sem, r0, r1, r2]) rfl ⟨by rw [HE.out.1, HE.out.2], ?_⟩
      exact ((HM.out.setCell (by simp) _).setCell (by simp) _).setCell (by simp) _
    · have HE : Hid (nvHi true u sh n wd = lshHi 0 u n ||| lowHi sh n ||| lshHi 0 1 (wd - 1) ∧ nvLo true u sl n wd = lshLo u n ||| lowLo sl n ||| lshLo 1 (wd - 1)) := by
        refine ⟨?_, ?_⟩ <;> simp only [nvHi, nvLo, if_neg hwn, if_true]
      have HFc : Hid (Fmt wc F e n ex) := HF.out.1.below hbw
      have HD : Hid (Endd w wc L ((lshHi 0 u n ||| lowHi sh n : Nat) : Int) ((lshLo u n ||| lowLo sl n : Nat) : Int)) := ⟨hM.c0, hM.c1, hM.f0, hM.f1, r0, r1, r2, f0, f1, f2, by have := hM.far; omega, by have := hM.far; omega, hbw⟩
      have hw1 : 1 ≤ wd := by omega
      have hq1 : IntKind.i64.wrap ((wd : Int) - 1) = (wd : Int) - 1 := by rw [IntKind.wrap_i64]; omega
      have hq2 : IntKind.u64.wrap ((wd : Int) - 1) = (wd : Int) - 1 := by rw [IntKind.wrap_u64]; omega
      have b1 : lshHi 0 u n ||| lowHi sh n < W64 := or_lt (lshHi_lt _ _ _ hul) (lowHi_lt _ _ hsh)
      have b2 : lshLo u n ||| lowLo sl n < W64 := or_lt (lshLo_lt _ _) (lowLo_lt _ _ hsl)
      generalize lshHi 0 u n ||| lowHi sh n = x at *
      generalize lshLo u n ||| lowLo sl n = y at *
      clear hM hz hbw hwn r0 r1 r2 f0 f1 f2
      go_upto_region 10 with (fail)
      go_cut [] (fun wx => Endd w wx L ((x ||| lshHi 0 1 (wd - 1) : Nat) : Int) ((y ||| lshLo 1 (wd - 1) : Nat) : Int))
      case first =>
        go_region_with (first
          | (go_at_call 13; refine (width_w F e n wd ex he hn HF.out.2 _ (by exact ⟨HFc.out.c2, HFc.out.c3, HFc.out.c4⟩)).mono ?_; rintro e w1 ⟨rfl, k2, rfl⟩)
          | (go_at_call 14; refine (lsh_one wd hw1 hw2 _).mono ?_; rintro e w1 ⟨rfl, hb⟩; have hE1 := HD.out.step ((below_drewN (Below.refl _ wc) _).trans (new2_below hb)); have HE1 : Hid (Endd w w1 L x y) := hE1; have a0 := hE1.c0; have a1 := hE1.c1; clear hE1 hb)
          | (go_at_call 15; refine (or_calls x y _ _ b1 b2 (lshHi_lt _ _ _ (by decide)) (lshLo_lt _ _) _).mono ?_; rintro e w2 ⟨rfl, hb⟩; have hE2 := HE1.out.step (new3_below hb); have HE2 : Hid (Endd w w2 L x y) := hE2; have d0 := hE2.c0; have d1 := hE2.c1; have z0 := hE2.g0; have z1 := hE2.g1; clear hE2 hb))
        all_goals
          go_wp2
          go_meet
          case rel => exact HE2.out.store _ _
      case rest =>
        have r0 := hcut.r0
        have r1 := hcut.r1
        have r2 := hcut.r2
        have f0 := hcut.f0
        have f1 := hcut.f1
        have f2 := hcut.f2
        have c0 := hcut.c0
        have c1 := hcut.c1
        have HM2 : Hid (Below w.heap.size w wc) := hcut.bel
        clear hcut
        go_wp2
        refine bodyPost_ret (v := val F ((x ||| lshHi 0 1 (wd - 1) : Nat) : Int) ((y ||| lshLo 1 (wd - 1) : Nat) : Int)) (by simp [results, Yba.results7, go_sem, r0, r1, r2]) rfl ⟨by rw [HE.out.1, HE.out.2], ?_⟩
        exact ((HM2.out.setCell (by simp) _).setCell (by simp) _).setCell (by simp) _

theorem word_eq (u sl n : Nat) (hn : n < 64) (hu : u < W64) (hsl : sl < W64) :
    bits .or .u64 (IntKind.u64.wrap ((u : Int) * 2 ^ n)) (bits .and .u64 (sl : Int) (IntKind.u64.wrap (IntKind.u64.wrap (2 ^ n) - 1))) = ((shl u n ||| sl &&& (2 ^ n - 1) : Nat) : Int) := by
  rw [wrap_shl, wrap_mask n hn, u64_and_nat _ _ hsl (mask_lt n hn), u64_or_nat _ _ (shl_lt _ _) (and_lt hsl)]

/-- newValue: the format's pointer, and the two words of the pattern. -/
theorem nv_calls (F e n u sh sl : Nat) (ex neg : Bool) (b : Int) (w : World) (h : Fmt w F e n ex) (he : e < 16) (hn : n + e ≤ 127) (hu : IntKind.u64.wrap b = (u : Int)) (hul : u < W64) (hsh : sh < W64) (hsl : sl < W64) :
    Calls Yba.prog 7 #[.pointer (some ⟨F, 0, none⟩), .bool neg, .int .i64 b, two sh sl] w fun e' w' =>
      e' = .returned (val F ((nvHi neg u sh n (1 + e + n) : Nat) : Int) ((nvLo neg u sl n (1 + e + n) : Nat) : Int)) ∧ Below w.heap.size w w' := by
  by_cases hw : 1 + e + n ≤ 64
  · have hn6 : n < 64 := by omega
    cases neg
    · refine (nv_word F e n (1 + e + n) u sh sl ex b w h he (by omega) rfl hu (by omega)).mono fun e' w' ⟨h1, h2⟩ => ⟨?_, h2⟩
      rw [h1, word_eq u sl n hn6 hul hsl, nvHi, nvLo, if_pos hw, if_pos hw]
      rfl
    · refine (nv_word_neg F e n (1 + e + n) u sh sl ex b w h he (by omega) rfl hu (by omega) (by omega)).mono fun e' w' ⟨h1, h2⟩ => ⟨?_, h2⟩
      rw [h1, word_eq u sl n hn6 hul hsl, wrap_one, u64_or_nat _ _ (or_lt (shl_lt _ _) (and_lt hsl)) (shl_lt _ _), nvHi, nvLo, if_pos hw, if_pos hw]
      rfl
  · exact nv_wide F e n (1 + e + n) u sh sl ex neg b w h he (by omega) rfl hu hul hsh hsl (by omega) (by omega)
end Go.Proofs.Ybulkbhbq
