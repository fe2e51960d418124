/- The walk of LawS2902CLayout. -/
import Derived.Test.YbulkbhbqNew
import Derived.LoopTactic
import Derived.Lib.Builder
import Derived.Deep.DeepCutAuto
namespace Go.Proofs.Ybulkbhbq
open Go.ChangeShapes Go.WideShapes Go.ChangeAt Go.RowKit
open Plain
set_option linter.unusedVariables false

theorem info28 : (Yba.prog.info? 28).isSome = true := by kernel_rfl
theorem ptrneq (a : Addr) (w : World) : (binOp .neq 26 (.pointer (some a)) (.pointer (some a))).run Yba.prog w = .ok (.bool false) w := by
  obtain ⟨j, hj⟩ := Option.isSome_iff_exists.1 info28
  exact Lib.run_neq_ptr_same w a Yba.underlying26 hj
theorem keep_alloc {w : World} {a : Addr} {v : Value} (h : w.cell? a = some v) (o : Obj) : (w.alloc o).cell? a = some v :=
  (World.cell?_of_block (a := a) (Below.heap_alloc _ _ _ (World.block_lt_of_cell? _ _ h))).trans h

/-- what the law's loop asks of memory: the significand, the exponent's word, the pattern -/
structure Held (w wr : World) (S U G sh sl u x y : Nat) : Prop where
  s0 : wr.cell? ⟨S, 0, none⟩ = some (.int .u64 sh)
  s1 : wr.cell? ⟨S, 1, none⟩ = some (.int .u64 sl)
  u0 : wr.cell? ⟨U, 0, none⟩ = some (.int .u64 0)
  u1 : wr.cell? ⟨U, 1, none⟩ = some (.int .u64 u)
  g0 : wr.cell? ⟨G, 0, none⟩ = some (.int .u64 x)
  g1 : wr.cell? ⟨G, 1, none⟩ = some (.int .u64 y)
  bel : Below w.heap.size w wr
theorem Held.alloc {w wr : World} {S U G sh sl u x y : Nat} (h : Held w wr S U G sh sl u x y) (o : Obj) : Held w (wr.alloc o) S U G sh sl u x y :=
  ⟨keep_alloc h.s0 o, keep_alloc h.s1 o, keep_alloc h.u0 o, keep_alloc h.u1 o, keep_alloc h.g0 o, keep_alloc h.g1 o, h.bel.alloc h.bel.size o⟩
theorem small (x5 e n : Nat) (he : e < 16) (hn : (x5 : Int) % (128 - (e : Int)) = (n : Int)) : n + e ≤ 127 := by
  have h := Int.emod_lt_of_pos (x5 : Int) (show (0 : Int) < 128 - (e : Int) by omega)
  omega
theorem bit_u0 (u i : Nat) (w : World) (hu : u < W64) (h : i < 128) : Calls Yba.prog 8 #[.agg #[.int .u64 0, .int .u64 u], .int .i64 i] w fun e w' => e = .returned (.bool (bitN 0 u i)) ∧ ∃ c1 : Array Value, w' = w.alloc (.cells c1 31) :=
  bit_calls 0 u i (by decide) hu h w

set_option maxRecDepth 100000 in
set_option maxHeartbeats 4000000 in
theorem lay_im (neg : Bool) (b : Int) (sh sl x4 x5 e n u : Nat) (w : World) (hsh : sh < W64) (hsl : sl < W64) (h4 : x4 ≤ 255) (h5 : x5 ≤ 255)
    (he : 1 + (x4 : Int) % 15 = (e : Int)) (hn : (x5 : Int) % (128 - (e : Int)) = (n : Int)) (hu : IntKind.u64.wrap b = (u : Int)) (hul : u < W64) :
    Calls Yba.prog 4 #[.bool neg, .int .i64 b, .int .u64 sh, .int .u64 sl, .int .u8 x4, .int .u8 x5, .bool false] w fun r w' => r = .returned (.bool true) ∧ Below w.heap.size w w' := by
  have hp := ptrneq
  have he1 : 1 ≤ e := by omega
  have he2 : e < 16 := by omega
  have hn2 : n + e ≤ 127 := small x5 e n he2 hn
  have he3 : (e : Int) < 16 := by omega
  have hn3 : (n : Int) ≤ 127 := by omega
  go_enter Yba.func4, Yba.ntmps4
  go_wp2_with fail
  refine (nv_calls w.heap.size e n u sh sl false neg b _ (by exact ⟨by go_simp, by go_simp; done, by go_simp⟩) he2 hn2 hu hul hsh hsl).mono ?_
  rintro r w1 ⟨rfl, hb⟩
  have hx := nvHi_lt neg u sh n (1 + e + n) hul hsh
  have hy := nvLo_lt neg u sl n (1 + e + n) hsl
  have HL : Hid (∀ i, i < 128 → bitN (nvHi neg u sh n (1 + e + n)) (nvLo neg u sl n (1 + e + n)) i = (wants u sh sl n (1 + e + n) i || (neg && decide (i = 1 + e + n - 1)))) := fun i hi => layout neg u sh sl e n i hul he1 hn2 hi
  generalize nvHi neg u sh n (1 + e + n) = x at *
  generalize nvLo neg u sl n (1 + e + n) = y at *
  have q2 : w1.cell? ⟨w.heap.size, 2, none⟩ = some (.int .i64 e) := (hb.cell (p := ⟨w.heap.size, 2, none⟩) (by simp; omega)).trans (by go_simp)
  have q3 : w1.cell? ⟨w.heap.size, 3, none⟩ = some (.int .i64 ((n : Int) + 1)) := (hb.cell (p := ⟨w.heap.size, 3, none⟩) (by simp; omega)).trans (by go_simp)
  have q4 : w1.cell? ⟨w.heap.size, 4, none⟩ = some (.bool false) := (hb.cell (p := ⟨w.heap.size, 4, none⟩) (by simp; omega)).trans (by go_simp)
  have s0 : w1.cell? ⟨w.heap.size + 1, 0, none⟩ = some (.int .u64 sh) := (hb.cell (p := ⟨w.heap.size + 1, 0, none⟩) (by simp)).trans (by go_simp)
  have s1 : w1.cell? ⟨w.heap.size + 1, 1, none⟩ = some (.int .u64 sl) := (hb.cell (p := ⟨w.heap.size + 1, 1, none⟩) (by simp)).trans (by go_simp)
  have z1 : w.heap.size + 1 < w1.heap.size := by have := hb.size; simp at this; omega
  have z0 : w.heap.size < w1.heap.size := by omega
  have hb0 : Below w.heap.size w w1 := (((Below.refl _ _).alloc (Nat.le_refl _) _).alloc (by simp) _).trans (hb.mono (by simp; omega))
  have HB : Hid (Below w.heap.size w w1) := hb0
  clear hb hb0
  go_wp2
  go_loopw [24] (fun i wr => ∃ k : Nat, k ≤ 128 ∧ i = .int .i64 k ∧ Held w wr (w.heap.size + 1) (w1.heap.size + 1) (w1.heap.size + 1 + 1) sh sl u x y) (fun i _ => 128 - (intOf i).toNat)
  case atStart => exact ⟨0, by omega, rfl, ⟨by exact keep_alloc (keep_alloc (keep_alloc s0 _) _) _, by exact keep_alloc (keep_alloc (keep_alloc s1 _) _) _, by go_simp, by go_simp, by go_simp, by go_simp, ((HB.out.alloc (by omega) _).alloc (by simp; omega) _).alloc (by simp; omega) _⟩⟩
  case round =>
    obtain ⟨k, hk, rfl, hH⟩ := hrel
    clear q2 q3 q4 s0 s1 z0 z1
    by_cases hk1 : k < 128
    · have hki : (k : Int) < 128 := by omega
      go_upto_if 94 with (fail)
      go_cut [25] (fun s25 wx => s25 = .bool (wants u sh sl n (1 + e + n) k) ∧ Held w wx (w.heap.size + 1) (w1.heap.size + 1) (w1.heap.size + 1 + 1) sh sl u x y)
      case first =>
        have s0 := hH.s0
        have s1 := hH.s1
        have u0 := hH.u0
        have u1 := hH.u1
        have HH : Hid (Held w wr (w.heap.size + 1) (w1.heap.size + 1) (w1.heap.size + 1 + 1) sh sl u x y) := hH
        clear hH
        by_cases c1 : k < n
        · have c1' : (k : Int) < (n : Int) := by omega
          have hv : wants u sh sl n (1 + e + n) k = bitN sh sl k := by unfold wants; rw [if_pos c1]
          have HV : Hid (wants u sh sl n (1 + e + n) k = bitN sh sl k) := hv
          clear hv
          go_wp2_with fail
          refine (bit_calls sh sl k hsh hsl hk1 _).mono ?_
          rintro r w2 ⟨rfl, o1, rfl⟩
          go_wp2
          go_meet
          case rel => exact ⟨by rw [HV.out], HH.out.alloc _⟩
        · have c1' : ¬ (k : Int) < (n : Int) := by omega
          by_cases c2 : k - n < 64
          · have c2' : (k : Int) - (n : Int) < 64 := by omega
            by_cases c3 : 1 + e + n ≤ 64
            · have c3' : 1 + (e : Int) + (n : Int) ≤ 64 := by omega
              by_cases c4 : 64 ≤ k
              · have c4' : (64 : Int) ≤ (k : Int) := by omega
                have hv : wants u sh sl n (1 + e + n) k = false := by unfold wants; rw [if_neg c1, if_pos c2, if_pos ⟨c3, c4⟩]
                have HV : Hid (wants u sh sl n (1 + e + n) k = false) := hv
                clear hv
                go_wp2
                go_meet
                case rel => exact ⟨by rw [HV.out], HH.out⟩
              · have c4' : ¬ (64 : Int) ≤ (k : Int) := by omega
                have hv : wants u sh sl n (1 + e + n) k = bitN 0 u (k - n) := by unfold wants; rw [if_neg c1, if_pos c2, if_neg (by omega)]
                have HV : Hid (wants u sh sl n (1 + e + n) k = bitN 0 u (k - n)) := hv
                have hd : (k : Int) - (n : Int) = ((k - n : Nat) : Int) := by omega
                have HD : Hid ((k : Int) - (n : Int) = ((k - n : Nat) : Int)) := hd
                clear hv hd
                go_wp2_with fail
                rw [HD.out]
                refine (bit_u0 u (k - n) _ hul (by omega)).mono ?_
                rintro r w2 ⟨rfl, o1, rfl⟩
                go_wp2
                go_meet
                case rel => exact ⟨by rw [HV.out], HH.out.alloc _⟩
            · have c3' : ¬ 1 + (e : Int) + (n : Int) ≤ 64 := by omega
              have c3'' : decide (1 + (e : Int) + (n : Int) ≤ 64) = false := by simpa using c3'
              have hv : wants u sh sl n (1 + e + n) k = bitN 0 u (k - n) := by unfold wants; rw [if_neg c1, if_pos c2, if_neg (by omega)]
              have HV : Hid (wants u sh sl n (1 + e + n) k = bitN 0 u (k - n)) := hv
              have hd : (k : Int) - (n : Int) = ((k - n : Nat) : Int) := by omega
              have HD : Hid ((k : Int) - (n : Int) = ((k - n : Nat) : Int)) := hd
              clear hv hd
              go_wp2_with fail
              rw [HD.out]
              refine (bit_u0 u (k - n) _ hul (by omega)).mono ?_
              rintro r w2 ⟨rfl, o1, rfl⟩
              go_wp2
              go_meet
              case rel => exact ⟨by rw [HV.out], HH.out.alloc _⟩
          · have c2' : ¬ (k : Int) - (n : Int) < 64 := by omega
            have hv : wants u sh sl n (1 + e + n) k = false := by unfold wants; rw [if_neg c1, if_neg c2]
            have HV : Hid (wants u sh sl n (1 + e + n) k = false) := hv
            clear hv
            go_wp2
            go_meet
            case rel => exact ⟨by rw [HV.out], HH.out⟩
      case rest =>
        obtain ⟨rfl, hH2⟩ := hcut
        clear hH
        have g0 := hH2.g0
        have g1 := hH2.g1
        have HH : Hid (Held w wc (w.heap.size + 1) (w1.heap.size + 1) (w1.heap.size + 1 + 1) sh sl u x y) := hH2
        have hl := HL.out k hk1
        generalize wants u sh sl n (1 + e + n) k = want at *
        clear hH2
        cases neg
        · have hl2 : bitN x y k = want := by rw [hl]; simp
          have HV : Hid (bitN x y k = want) := hl2
          clear hl hl2
          go_wp2_with fail
          refine (bit_calls x y k hx hy hk1 _).mono ?_
          rw [HV.out]
          rintro r w2 ⟨rfl, o1, rfl⟩
          go_wp2
          go_roundw
          case rel => exact ⟨k + 1, by omega, by go_num, HH.out.alloc _⟩
          case measure => simp [intOf]; omega
        · by_cases c5 : k = 1 + e + n - 1
          · have c5' : ((k : Int) == 1 + (e : Int) + (n : Int) - 1) = true := by simp; omega
            have hl2 : bitN x y k = true := by rw [hl]; simp; exact .inr c5
            have HV : Hid (bitN x y k = true) := hl2
            clear hl hl2 c5
            go_wp2_with fail
            refine (bit_calls x y k hx hy hk1 _).mono ?_
            rw [HV.out]
            rintro r w2 ⟨rfl, o1, rfl⟩
            go_wp2
            go_roundw
            case rel => exact ⟨k + 1, by omega, by go_num, HH.out.alloc _⟩
            case measure => simp [intOf]; omega
          · have c5' : ((k : Int) == 1 + (e : Int) + (n : Int) - 1) = false := by simp; omega
            have hl2 : bitN x y k = want := by rw [hl]; simp; omega
            have HV : Hid (bitN x y k = want) := hl2
            clear hl hl2 c5
            go_wp2_with fail
            refine (bit_calls x y k hx hy hk1 _).mono ?_
            rw [HV.out]
            rintro r w2 ⟨rfl, o1, rfl⟩
            go_wp2
            go_roundw
            case rel => exact ⟨k + 1, by omega, by go_num, HH.out.alloc _⟩
            case measure => simp [intOf]; omega
    · have ek : k = 128 := by omega
      subst ek
      go_wp2
      go_ret
      exact ⟨rfl, hH.bel⟩

set_option maxRecDepth 100000 in
set_option maxHeartbeats 4000000 in
theorem lay_ex (neg : Bool) (b : Int) (sh sl x4 x5 e n u : Nat) (w : World) (hsh : sh < W64) (hsl : sl < W64) (h4 : x4 ≤ 255) (h5 : x5 ≤ 255)
    (he : 1 + (x4 : Int) % 15 = (e : Int)) (hn : (x5 : Int) % (128 - (e : Int)) = (n : Int)) (hu : IntKind.u64.wrap b = (u : Int)) (hul : u < W64) :
    Calls Yba.prog 4 #[.bool neg, .int .i64 b, .int .u64 sh, .int .u64 sl, .int .u8 x4, .int .u8 x5, .bool true] w fun r w' => r = .returned (.bool true) ∧ Below w.heap.size w w' := by
  have hp := ptrneq
  have he1 : 1 ≤ e := by omega
  have he2 : e < 16 := by omega
  have hn2 : n + e ≤ 127 := small x5 e n he2 hn
  have he3 : (e : Int) < 16 := by omega
  have hn3 : (n : Int) ≤ 127 := by omega
  go_enter Yba.func4, Yba.ntmps4
  go_wp2_with fail
  refine (nv_calls w.heap.size e n u sh sl true neg b _ (by exact ⟨by go_simp, by go_simp; done, by go_simp⟩) he2 hn2 hu hul hsh hsl).mono ?_
  rintro r w1 ⟨rfl, hb⟩
  have hx := nvHi_lt neg u sh n (1 + e + n) hul hsh
  have hy := nvLo_lt neg u sl n (1 + e + n) hsl
  have HL : Hid (∀ i, i < 128 → bitN (nvHi neg u sh n (1 + e + n)) (nvLo neg u sl n (1 + e + n)) i = (wants u sh sl n (1 + e + n) i || (neg && decide (i = 1 + e + n - 1)))) := fun i hi => layout neg u sh sl e n i hul he1 hn2 hi
  generalize nvHi neg u sh n (1 + e + n) = x at *
  generalize nvLo neg u sl n (1 + e + n) = y at *
  have q2 : w1.cell? ⟨w.heap.size, 2, none⟩ = some (.int .i64 e) := (hb.cell (p := ⟨w.heap.size, 2, none⟩) (by simp; omega)).trans (by go_simp)
  have q3 : w1.cell? ⟨w.heap.size, 3, none⟩ = some (.int .i64 ((n : Int))) := (hb.cell (p := ⟨w.heap.size, 3, none⟩) (by simp; omega)).trans (by go_simp)
  have q4 : w1.cell? ⟨w.heap.size, 4, none⟩ = some (.bool true) := (hb.cell (p := ⟨w.heap.size, 4, none⟩) (by simp; omega)).trans (by go_simp)
  have s0 : w1.cell? ⟨w.heap.size + 1, 0, none⟩ = some (.int .u64 sh) := (hb.cell (p := ⟨w.heap.size + 1, 0, none⟩) (by simp)).trans (by go_simp)
  have s1 : w1.cell? ⟨w.heap.size + 1, 1, none⟩ = some (.int .u64 sl) := (hb.cell (p := ⟨w.heap.size + 1, 1, none⟩) (by simp)).trans (by go_simp)
  have z1 : w.heap.size + 1 < w1.heap.size := by have := hb.size; simp at this; omega
  have z0 : w.heap.size < w1.heap.size := by omega
  have hb0 : Below w.heap.size w w1 := (((Below.refl _ _).alloc (Nat.le_refl _) _).alloc (by simp) _).trans (hb.mono (by simp; omega))
  have HB : Hid (Below w.heap.size w w1) := hb0
  clear hb hb0
  go_wp2
  go_loopw [24] (fun i wr => ∃ k : Nat, k ≤ 128 ∧ i = .int .i64 k ∧ Held w wr (w.heap.size + 1) (w1.heap.size + 1) (w1.heap.size + 1 + 1) sh sl u x y) (fun i _ => 128 - (intOf i).toNat)
  case atStart => exact ⟨0, by omega, rfl, ⟨by exact keep_alloc (keep_alloc (keep_alloc s0 _) _) _, by exact keep_alloc (keep_alloc (keep_alloc s1 _) _) _, by go_simp, by go_simp, by go_simp, by go_simp, ((HB.out.alloc (by omega) _).alloc (by simp; omega) _).alloc (by simp; omega) _⟩⟩
  case round =>
    obtain ⟨k, hk, rfl, hH⟩ := hrel
    clear q2 q3 q4 s0 s1 z0 z1
    by_cases hk1 : k < 128
    · have hki : (k : Int) < 128 := by omega
      go_upto_if 94 with (fail)
      go_cut [25] (fun s25 wx => s25 = .bool (wants u sh sl n (1 + e + n) k) ∧ Held w wx (w.heap.size + 1) (w1.heap.size + 1) (w1.heap.size + 1 + 1) sh sl u x y)
      case first =>
        have s0 := hH.s0
        have s1 := hH.s1
        have u0 := hH.u0
        have u1 := hH.u1
        have HH : Hid (Held w wr (w.heap.size + 1) (w1.heap.size + 1) (w1.heap.size + 1 + 1) sh sl u x y) := hH
        clear hH
        by_cases c1 : k < n
        · have c1' : (k : Int) < (n : Int) := by omega
          have hv : wants u sh sl n (1 + e + n) k = bitN sh sl k := by unfold wants; rw [if_pos c1]
          have HV : Hid (wants u sh sl n (1 + e + n) k = bitN sh sl k) := hv
          clear hv
          go_wp2_with fail
          refine (bit_calls sh sl k hsh hsl hk1 _).mono ?_
          rintro r w2 ⟨rfl, o1, rfl⟩
          go_wp2
          go_meet
          case rel => exact ⟨by rw [HV.out], HH.out.alloc _⟩
        · have c1' : ¬ (k : Int) < (n : Int) := by omega
          by_cases c2 : k - n < 64
          · have c2' : (k : Int) - (n : Int) < 64 := by omega
            by_cases c3 : 1 + e + n ≤ 64
            · have c3' : 1 + (e : Int) + (n : Int) ≤ 64 := by omega
              by_cases c4 : 64 ≤ k
              · have c4' : (64 : Int) ≤ (k : Int) := by omega
                have hv : wants u sh sl n (1 + e + n) k = false := by unfold wants; rw [if_neg c1, if_pos c2, if_pos ⟨c3, c4⟩]
                have HV : Hid (wants u sh sl n (1 + e + n) k = false) := hv
                clear hv
                go_wp2
                go_meet
                case rel => exact ⟨by rw [HV.out], HH.out⟩
              · have c4' : ¬ (64 : Int) ≤ (k : Int) := by omega
                have hv : wants u sh sl n (1 + e + n) k = bitN 0 u (k - n) := by unfold wants; rw [if_neg c1, if_pos c2, if_neg (by omega)]
                have HV : Hid (wants u sh sl n (1 + e + n) k = bitN 0 u (k - n)) := hv
                have hd : (k : Int) - (n : Int) = ((k - n : Nat) : Int) := by omega
                have HD : Hid ((k : Int) - (n : Int) = ((k - n : Nat) : Int)) := hd
                clear hv hd
                go_wp2_with fail
                rw [HD.out]
                refine (bit_u0 u (k - n) _ hul (by omega)).mono ?_
                rintro r w2 ⟨rfl, o1, rfl⟩
                go_wp2
                go_meet
                case rel => exact ⟨by rw [HV.out], HH.out.alloc _⟩
            · have c3' : ¬ 1 + (e : Int) + (n : Int) ≤ 64 := by omega
              have c3'' : decide (1 + (e : Int) + (n : Int) ≤ 64) = false := by simpa using c3'
              have hv : wants u sh sl n (1 + e + n) k = bitN 0 u (k - n) := by unfold wants; rw [if_neg c1, if_pos c2, if_neg (by omega)]
              have HV : Hid (wants u sh sl n (1 + e + n) k = bitN 0 u (k - n)) := hv
              have hd : (k : Int) - (n : Int) = ((k - n : Nat) : Int) := by omega
              have HD : Hid ((k : Int) - (n : Int) = ((k - n : Nat) : Int)) := hd
              clear hv hd
              go_wp2_with fail
              rw [HD.out]
              refine (bit_u0 u (k - n) _ hul (by omega)).mono ?_
              rintro r w2 ⟨rfl, o1, rfl⟩
              go_wp2
              go_meet
              case rel => exact ⟨by rw [HV.out], HH.out.alloc _⟩
          · have c2' : ¬ (k : Int) - (n : Int) < 64 := by omega
            have hv : wants u sh sl n (1 + e + n) k = false := by unfold wants; rw [if_neg c1, if_neg c2]
            have HV : Hid (wants u sh sl n (1 + e + n) k = false) := hv
            clear hv
            go_wp2
            go_meet
            case rel => exact ⟨by rw [HV.out], HH.out⟩
      case rest =>
        obtain ⟨rfl, hH2⟩ := hcut
        clear hH
        have g0 := hH2.g0
        have g1 := hH2.g1
        have HH : Hid (Held w wc (w.heap.size + 1) (w1.heap.size + 1) (w1.heap.size + 1 + 1) sh sl u x y) := hH2
        have hl := HL.out k hk1
        generalize wants u sh sl n (1 + e + n) k = want at *
        clear hH2
        cases neg
        · have hl2 : bitN x y k = want := by rw [hl]; simp
          have HV : Hid (bitN x y k = want) := hl2
          clear hl hl2
          go_wp2_with fail
          refine (bit_calls x y k hx hy hk1 _).mono ?_
          rw [HV.out]
          rintro r w2 ⟨rfl, o1, rfl⟩
          go_wp2
          go_roundw
          case rel => exact ⟨k + 1, by omega, by go_num, HH.out.alloc _⟩
          case measure => simp [intOf]; omega
        · by_cases c5 : k = 1 + e + n - 1
          · have c5' : ((k : Int) == 1 + (e : Int) + (n : Int) - 1) = true := by simp; omega
            have hl2 : bitN x y k = true := by rw [hl]; simp; exact .inr c5
            have HV : Hid (bitN x y k = true) := hl2
            clear hl hl2 c5
            go_wp2_with fail
            refine (bit_calls x y k hx hy hk1 _).mono ?_
            rw [HV.out]
            rintro r w2 ⟨rfl, o1, rfl⟩
            go_wp2
            go_roundw
            case rel => exact ⟨k + 1, by omega, by go_num, HH.out.alloc _⟩
            case measure => simp [intOf]; omega
          · have c5' : ((k : Int) == 1 + (e : Int) + (n : Int) - 1) = false := by simp; omega
            have hl2 : bitN x y k = want := by rw [hl]; simp; omega
            have HV : Hid (bitN x y k = want) := hl2
            clear hl hl2 c5
            go_wp2_with fail
            refine (bit_calls x y k hx hy hk1 _).mono ?_
            rw [HV.out]
            rintro r w2 ⟨rfl, o1, rfl⟩
            go_wp2
            go_roundw
            case rel => exact ⟨k + 1, by omega, by go_num, HH.out.alloc _⟩
            case measure => simp [intOf]; omega
    · have ek : k = 128 := by omega
      subst ek
      go_wp2
      go_ret
      exact ⟨rfl, hH.bel⟩
end Go.Proofs.Ybulkbhbq
