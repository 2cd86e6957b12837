/-
  Part of the proofs on the laws of pub-addresssets: joined texts (U24, U25).
-/
import Derived.Test.YtmoabfpdlbngeaaGreatDoorVU22
import Derived.Test.YtmoabfpdlbngeaaGreatDoorVU13
import Derived.Test.YtmoabfpdlbngeaaGreatDoorVR3
import Derived.Test.YtmoabfpdlbngeaaGreatDoorVU7
import Derived.Test.YtmoabfpdlbngeaaGreatDoorRows
import Derived.Lib.LaidTab
import Derived.LaidMore
import Derived.MakeChecks
section
namespace Go.Proofs.YtmoabfpdlbngeaaGreatDoor
open Go.RowKit
set_option maxHeartbeats 400000
set_option linter.unusedVariables false
set_option linter.unusedSimpArgs false
theorem eq40s (a : Nat × Nat) (w : World) : (binOp .eql 40 (.agg #[.bool (sK a.1), .int .u64 (hK a.1), .int .u64 (mK a.1), .bool (sK a.2), .int .u64 (hK a.2), .int .u64 (mK a.2)]) (.agg #[.bool (sK a.1), .int .u64 (hK a.1), .int .u64 (mK a.1), .bool (sK a.2), .int .u64 (hK a.2), .int .u64 (mK a.2)])).run Tryz.prog w = .ok (.bool true) w := by
  simp [go_sem]
theorem rem47 (n L b : Nat) (hn : n < 256) (hL : L ≤ 128) (hb : n % (L + 1) = b) (w : World) : (binOp .rem 3 (.int .i64 ((n : Nat) : Int)) (.int .i64 (((L : Nat) : Int) + 1))).run Tryz.prog w = .ok (.int .i64 ((b : Nat) : Int)) w := by
  have h0 : ¬ (((L : Nat) : Int) + 1 = 0) := by omega
  have h1 : (((n : Nat) : Int).tmod (((L : Nat) : Int) + 1)) = ((b : Nat) : Int) := by
    rw [← hb]
    exact (Int.ofNat_tmod n (L + 1)).symm
  have h2 : (((n : Nat) : Int) % (((L : Nat) : Int) + 1)) = ((b : Nat) : Int) := by
    rw [← hb, Int.natCast_emod]
    rfl
  simp [go_sem, h0, h1, h2]
theorem new47 (W : World) (r : Nat × Nat) (n B : Nat) (hB : B = W.heap.size) : (W.alloc (.cells #[.bool (sK r.1), .int .u64 (hK r.1), .int .u64 (mK r.1), .int .i64 ((n : Nat) : Int)] 47)).rangeAt B 0 [.bool (sK r.1), .int .u64 (hK r.1), .int .u64 (mK r.1), .int .i64 ((n : Nat) : Int)] :=
  rangeAt_of _ _ _ 47 (blk_new hB) 0 _ (fun j hj => by rw [Nat.zero_add, ← Array.getElem?_toList])
theorem Rd.newQAt (W : World) (r : Nat × Nat) (B : Nat) (hB : B = W.heap.size) : Rd layQ (W.alloc (.cells #[.bool (sK r.1), .int .u64 (hK r.1), .int .u64 (mK r.1), .bool (sK r.2), .int .u64 (hK r.2), .int .u64 (mK r.2)] 40)) (.slice (some ⟨B, 0, none⟩) 1 1) 1 (fun _ => r) := by
  subst hB
  exact Rd.new (D := layQ) (E := 40) W _ r rfl
set_option maxRecDepth 100000 in
set_option maxHeartbeats 4000000 in
/-- FnRangeWhole returns true. -/
theorem c7 (f2 : Nat → Int) (hf2 : ∀ i, i < 8 → 0 ≤ f2 i ∧ f2 i < 256) (nb : Nat) (hnb : nb < 256) (w : World) (T : Tabs w) :
    Calls Tryz.prog 7 #[.agg #[.int .u8 (f2 0), .int .u8 (f2 1), .int .u8 (f2 2), .int .u8 (f2 3), .int .u8 (f2 4), .int .u8 (f2 5), .int .u8 (f2 6), .int .u8 (f2 7)], .int .u8 ((nb : Nat) : Int)] w (TrueP w) := by
  have HT : Hid _ := T
  obtain ⟨r, or, hp1, hp2, K22⟩ := y22 (f2 0) (f2 1) (f2 2) (f2 3) (f2 4) (f2 5) (f2 6) (f2 7) (hf2 0 (by omega)).1 (hf2 0 (by omega)).2 (hf2 1 (by omega)).1 (hf2 1 (by omega)).2 (hf2 2 (by omega)).1 (hf2 2 (by omega)).2 (hf2 3 (by omega)).1 (hf2 3 (by omega)).2 (hf2 4 (by omega)).1 (hf2 4 (by omega)).2 (hf2 5 (by omega)).1 (hf2 5 (by omega)).2 (hf2 6 (by omega)).1 (hf2 6 (by omega)).2 (hf2 7 (by omega)).1 (hf2 7 (by omega)).2
  have HOR : Hid _ := or
  have oa : okK r.1 := or.a
  have ob : okK r.2 := or.b
  have HP1 : Hid (Pure6 r.1) := hp1
  have HP2 : Hid (Pure6 r.2) := hp2
  have H22 : Hid _ := K22
  clear T or K22 hf2 hp1 hp2
  go_enter Tryz.func7, Tryz.ntmps7

  go_upto_region 1 with fail
  go_cut [5] from 13 (fun t5 wx => ∃ B5 : Nat, t5 = .pointer (some ⟨B5, 0, none⟩) ∧ Hid (Chg (fun _ => False) w wx ∧ wx.rangeAt B5 0 (rqL r)))
  case first =>
    go_wp2_with (first | (go_at_call 22; (with_reducible refine (H22.out _).mono ?_); rintro e w' ⟨rfl, dd, oo, rfl⟩))
    go_meet
    case rel => exact ⟨_, rfl, by (repeat (with_reducible first | exact Chg.refl _ _ | refine Chg.plus ?_ _ _ | refine Chg.alloc ?_ _ | refine Chg.drew ?_)), newRqAt _ r _ (by simp)⟩
  case rest =>
    obtain ⟨B5, rfl, Z⟩ := hcut
    obtain ⟨w1, rfl⟩ : ∃ w1 : World, w1 = wc := ⟨_, rfl⟩
    have HC1 : Hid (Chg (fun _ => False) w w1) := Z.out.1
    have HR5 : Hid (w1.rangeAt B5 0 (rqL r)) := Z.out.2
    clear Z
    obtain ⟨cr0, cr1, cr2, cr3, cr4, cr5⟩ := rq_cells HR5.out
    simp only [Nat.zero_add] at cr0 cr1 cr2 cr3 cr4 cr5
    have hB5 : B5 < w1.heap.size := World.block_lt_of_cell? _ _ cr0
    go_wp2_with (first | (go_at_call 25; (with_reducible refine (c25 r HOR.out HP1.out HP2.out _).mono ?_)))
    rintro e w2 ⟨p, M, c, F, rfl, Z⟩
    have HC2 : Hid (Chg (fun _ => False) w1 w2) := Chg.trans (by (repeat (with_reducible first | exact Chg.refl _ _ | refine Chg.plus ?_ _ _ | refine Chg.alloc ?_ _ | refine Chg.drew ?_))) Z.out.1
    have HF : Hid (Rd layI w2 (.slice p M c) M F) := Z.out.2.1
    have HCh : Hid (ChL (fun _ => r) 1 M F) := Z.out.2.2.1
    have hM : M ≤ 257 := Z.out.2.2.2
    clear Z cr0 cr1 cr2 cr3 cr4 cr5 hB5
    go_upto_region 3 with fail
    go_cut [9, 10] from 13 (fun t9 t10 wx => ∃ B9 : Nat, t9 = .pointer (some ⟨B9, 0, none⟩) ∧ t10 = .bool true ∧ Hid (Chg (fun _ => False) w2 wx ∧ wx.rangeAt B9 0 (rqL r)))
    case first =>
      go_wp2_with (first | (go_at_call 26; (with_reducible refine (c26 r HOR.out _).mono ?_); rintro e w' ⟨rfl, dd, oo, rfl⟩))
      go_meet
      case rel => exact ⟨_, rfl, rfl, by (repeat (with_reducible first | exact Chg.refl _ _ | refine Chg.plus ?_ _ _ | refine Chg.alloc ?_ _ | refine Chg.drew ?_)), newRqAt _ r _ (by simp)⟩
    case rest =>
      obtain ⟨B9, rfl, rfl, Z⟩ := hcut
      obtain ⟨w3, rfl⟩ : ∃ w3 : World, w3 = wc := ⟨_, rfl⟩
      have HC3 : Hid (Chg (fun _ => False) w2 w3) := Z.out.1
      have HR9 : Hid (w3.rangeAt B9 0 (rqL r)) := Z.out.2
      clear Z
      obtain ⟨cr0, cr1, cr2, cr3, cr4, cr5⟩ := rq_cells (rangeAt_chg (HC2.out.trans HC3.out) HR5.out id)
      simp only [Nat.zero_add] at cr0 cr1 cr2 cr3 cr4 cr5
      have hB5 : B5 < w3.heap.size := World.block_lt_of_cell? _ _ cr0
      obtain ⟨bits, hbits⟩ : ∃ bits, bits = nb % (lenK r.1 + 1) := ⟨_, rfl⟩
      have hb : bits ≤ lenK r.1 := by rw [hbits]; have := Nat.mod_lt nb (show 0 < lenK r.1 + 1 by omega); omega
      have hrem := fun w => rem47 nb (lenK r.1) bits hnb (lenK_le r.1) hbits.symm w
      have hLK := lenK_le r.1
      have hL0 : (0 : Int) ≤ ((lenK r.1 : Nat) : Int) := by omega
      have hL1 : ((lenK r.1 : Nat) : Int) ≤ 128 := by omega
      have hwr : IntKind.i64.wrap (((lenK r.1 : Nat) : Int) + 1) = ((lenK r.1 : Nat) : Int) + 1 := (IntWalk.i64_left _).trans (IntWalk.wrap64_in _ (by omega))
      have hne0 : ¬ (((lenK r.1 : Nat) : Int) + 1 = 0) := by omega
      have hmd : (((nb : Nat) : Int) % (((lenK r.1 : Nat) : Int) + 1)) = ((bits : Nat) : Int) := by rw [hbits, Int.natCast_emod]; rfl
      have hw8 : IntKind.i64.wrap ((nb : Nat) : Int) = ((nb : Nat) : Int) := (IntWalk.i64_left _).trans (IntWalk.wrap64_in _ (by omega))
      have hmt : (((nb : Nat) : Int).tmod (((lenK r.1 : Nat) : Int) + 1)) = ((bits : Nat) : Int) := by rw [hbits]; exact (Int.ofNat_tmod nb (lenK r.1 + 1)).symm
      have hnb1 : ((nb : Nat) : Int) < 256 := by omega
      clear hbits
      go_upto_region 4 with fail
      go_cut [11] from 13 (fun t11 wx => ∃ B11 : Nat, t11 = .pointer (some ⟨B11, 0, none⟩) ∧ Hid (Chg (fun _ => False) w3 wx ∧ wx.rangeAt B11 0 [.bool (sK r.1), .int .u64 (hK r.1), .int .u64 (mK r.1), .int .i64 ((bits : Nat) : Int)]))
      case first =>
        go_region_held3 (fun w' => KS (w3) w') (repeat (first | exact KS.refl _ | assumption | apply KS.drew | apply KS.plus | apply KS.alloc | (refine KS.setCell ?_ _ _ _ (by first | (simp; done) | (simp; omega))))) (first | (go_at_call 18; (with_reducible refine (k18 r.1 _).mono ?_); rintro e w' ⟨rfl, dd, oo, rfl⟩))
        all_goals (
          go_wp2_with fail
          go_meet
          case rel =>
            refine ⟨_, rfl, by (repeat (with_reducible first | exact Chg.refl _ _ | refine Chg.plus ?_ _ _ | refine Chg.alloc ?_ _ | refine Chg.drew ?_)), ?_⟩
            (repeat (with_reducible first | exact new47 _ r bits _ (by simp) | refine rangeAt_plus ?_ _ _ | refine World.rangeAt_alloc ?_ _ | refine (World.rangeAt_drew _ _ _ _).2 ?_)))
      case rest =>
        obtain ⟨B11, rfl, Z⟩ := hcut
        obtain ⟨w4, rfl⟩ : ∃ w4 : World, w4 = wc := ⟨_, rfl⟩
        have HC4 : Hid (Chg (fun _ => False) w3 w4) := Z.out.1
        have HR11 : Hid (w4.rangeAt B11 0 [.bool (sK r.1), .int .u64 (hK r.1), .int .u64 (mK r.1), .int .i64 ((bits : Nat) : Int)]) := Z.out.2
        have HB : Hid _ := hb
        clear Z cr0 cr1 cr2 cr3 cr4 cr5 hB5 hrem hLK hb
        obtain ⟨cr0, cr1, cr2, cr3, cr4, cr5⟩ := rq_cells (rangeAt_chg (HC2.out.trans (HC3.out.trans HC4.out)) HR5.out id)
        simp only [Nat.zero_add] at cr0 cr1 cr2 cr3 cr4 cr5
        have hB5 : B5 < w4.heap.size := World.block_lt_of_cell? _ _ cr0
        go_wp2_with (first | (go_at_call 13; (with_reducible refine (c13 _ 1 (fun _ => r) (by omega) _ (Rd.newQAt _ r _ (by simp)) (fun j hj => HOR.out)).mono ?_)))
        rintro e w5 ⟨p2, M2, c2, F2, rfl, Z⟩
        have HC5 : Hid (Chg (fun _ => False) w4 w5) := Chg.trans (by (repeat (with_reducible first | exact Chg.refl _ _ | refine Chg.plus ?_ _ _ | refine Chg.alloc ?_ _ | refine Chg.drew ?_))) Z.out.1
        have HF2 : Hid (Rd layI w5 (.slice p2 M2 c2) M2 F2) := Z.out.2.1
        have HEF : Hid (M = M2 ∧ ∀ j, j < M → F j = F2 j) := HCh.out.uniq Z.out.2.2.1
        clear Z cr0 cr1 cr2 cr3 cr4 cr5 hB5
        obtain ⟨e1, e2⟩ := HEF.out
        subst e1
        have HE2 : Hid (∀ j, j < M → F j = F2 j) := e2
        clear e2 HEF
        have HR55 : Hid (w5.rangeAt B5 0 (rqL r)) := rangeAt_chg (HC2.out.trans (HC3.out.trans (HC4.out.trans HC5.out))) HR5.out id
        have HR95 : Hid (w5.rangeAt B9 0 (rqL r)) := rangeAt_chg (HC4.out.trans HC5.out) HR9.out id
        have HR15 : Hid (w5.rangeAt B11 0 [.bool (sK r.1), .int .u64 (hK r.1), .int .u64 (mK r.1), .int .i64 ((bits : Nat) : Int)]) := rangeAt_chg HC5.out HR11.out id
        have HC15 : Hid (Chg (fun _ => False) w w5) := HC1.out.trans (HC2.out.trans (HC3.out.trans (HC4.out.trans HC5.out)))
        have HT5 : Hid (Tabs w5) := HT.out.chg HC15.out
        have C12 : Hid (∀ d os, Calls Tryz.prog 12 #[.slice p M c, .slice p2 M c2] (w5.plus d os) fun e w' => e = .returned (.bool true) ∧ Plus (w5.plus d os) w') := fun d os => (c12 _ _ M F F2 (by omega) _ (Rd.chg0 HF.out (HC3.out.trans (HC4.out.trans (HC5.out.trans (by (repeat (with_reducible first | exact Chg.refl _ _ | refine Chg.plus ?_ _ _ | refine Chg.alloc ?_ _ | refine Chg.drew ?_))))))) (Rd.chg0 HF2.out (by (repeat (with_reducible first | exact Chg.refl _ _ | refine Chg.plus ?_ _ _ | refine Chg.alloc ?_ _ | refine Chg.drew ?_)))) HE2.out).mono (fun _ _ z => ⟨z.1, z.2.plus_of (fun _ _ => id)⟩)
        have C14 : Hid (∀ w, Calls Tryz.prog 14 #[] w fun e w' => e = .returned (.bool true) ∧ Plus w w') := fun w => (c14 w).mono (fun _ _ z => ⟨z.1, z.2.plus_of (fun _ _ => id)⟩)
        have C27 : Hid (∀ k, okK k → Pure6 k → ∀ d os, Calls Tryz.prog 27 #[.agg #[.bool (sK k), .int .u64 (hK k), .int .u64 (mK k)]] (w5.plus d os) fun e w' => e = .returned (.string (toB (txtK k))) ∧ Plus (w5.plus d os) w') := fun k o hp d os => c27 k o hp _ (HT5.out.chg (by (repeat (with_reducible first | exact Chg.refl _ _ | refine Chg.plus ?_ _ _ | refine Chg.alloc ?_ _ | refine Chg.drew ?_))))
        obtain ⟨px, py, HPF⟩ : ∃ px py, Hid (pfR r.1 bits = (px, py)) := ⟨_, _, rfl⟩
        have HPO : Hid (okK py) := by have := (pfR_ok r.1 bits oa HB.out).b; rw [HPF.out] at this; exact this
        have C28 : Hid (∀ w, Calls Tryz.prog 28 #[.agg #[.bool (sK r.1), .int .u64 (hK r.1), .int .u64 (mK r.1), .int .i64 ((bits : Nat) : Int)]] w fun e w' => e = .returned (.agg #[.bool (sK py), .int .u64 (hK py), .int .u64 (mK py)]) ∧ Plus w w') := fun w => c28 r.1 bits oa HB.out py (by rw [HPF.out]) w
        have C19 : Hid (∀ w, Calls Tryz.prog 19 #[.agg #[.bool (sK r.1), .int .u64 (hK r.1), .int .u64 (mK r.1), .int .i64 ((bits : Nat) : Int)]] w fun e w' => e = .returned (.agg #[.bool (sK px), .int .u64 (hK px), .int .u64 (mK px), .bool (sK py), .int .u64 (hK py), .int .u64 (mK py)]) ∧ Plus w w') := fun w => k19x r.1 bits oa HB.out px py HPF.out w
        have heq := fun w => eq38 py py HPO.out HPO.out true (decide_eq_true rfl) w
        have he40 := fun w => eq40s r w
        obtain ⟨bm, hbm⟩ : ∃ bm, bm = decide (M = 1) := ⟨_, rfl⟩
        have zM : (((M : Nat) : Int) == 1) = bm := by
          rw [hbm]
          by_cases q : M = 1
          · rw [decide_eq_true q, beq_iff_eq]; omega
          · rw [decide_eq_false q, beq_eq_false_iff_ne]; omega
        rw [← hbm]
        have l1 := txtK_len r.1
        have l2 := txtK_len r.2
        have q1 : ∀ w, (Op.stringOp .add (toB (txtK r.1)) ⟨#[45]⟩).run Tryz.prog w = .ok (.string (toB (txtK r.1 ++ [45]))) w := fun w => strT (txtK r.1) [45] (by omega) (by simp) w
        have q2 : ∀ w, (Op.stringOp .add (toB (txtK r.1 ++ [45])) (toB (txtK r.2))).run Tryz.prog w = .ok (.string (toB (txtK r.1 ++ 45 :: txtK r.2))) w := fun w => by
          have := strT (txtK r.1 ++ [45]) (txtK r.2) (by simp; omega) (by omega) w
          rw [List.append_assoc] at this
          exact this
        obtain ⟨cr0, cr1, cr2, cr3, cr4, cr5⟩ := rq_cells HR55.out
        obtain ⟨ct0, ct1, ct2, ct3, ct4, ct5⟩ := rq_cells HR95.out
        simp only [Nat.zero_add] at cr0 cr1 cr2 cr3 cr4 cr5 ct0 ct1 ct2 ct3 ct4 ct5
        have cs0 : w5.cell? ⟨B11, 0, none⟩ = some (.bool (sK r.1)) := HR15.out 0 _ rfl
        have cs1 : w5.cell? ⟨B11, 1, none⟩ = some (.int .u64 (hK r.1)) := HR15.out 1 _ rfl
        have cs2 : w5.cell? ⟨B11, 2, none⟩ = some (.int .u64 (mK r.1)) := HR15.out 2 _ rfl
        have cs3 : w5.cell? ⟨B11, 3, none⟩ = some (.int .i64 ((bits : Nat) : Int)) := HR15.out 3 _ rfl
        have hB5 : B5 < w5.heap.size := World.block_lt_of_cell? _ _ cr0
        have hB9 : B9 < w5.heap.size := World.block_lt_of_cell? _ _ ct0
        have hB11 : B11 < w5.heap.size := World.block_lt_of_cell? _ _ cs0
        have HBM : Hid _ := hbm
        obtain ⟨S0, hS0⟩ : ∃ S0, S0 = toB (txtK r.1 ++ 45 :: txtK r.2) := ⟨_, rfl⟩
        rw [← hS0] at q2 ⊢
        generalize toB (txtK r.1 ++ [45]) = S1 at q1 q2
        clear l1 l2 hbm hS0
        go_upto_region 6 with fail
        refine wp_region_plus (by kernel_rfl) (by kernel_rfl) ?_
        repeat (go_big_quiet_step (first
          | (go_at_call 12; (with_reducible exact Calls.plus_of (C12.out _ _)))
          | (go_at_call 14; (with_reducible exact Calls.plus_of (C14.out _)))
          | (go_at_call 27; (with_reducible first | exact Calls.plus_of (C27.out r.1 oa HP1.out _ _) | exact Calls.plus_of (C27.out r.2 ob HP2.out _ _)))
          | (go_at_call 28; (with_reducible exact Calls.plus_of (C28.out _)))
          | (go_at_call 19; (with_reducible exact Calls.plus_of (C19.out _)))))
        refine wpQuiet_nil ?_
        intro _ hq
        obtain ⟨⟨dq, oq⟩, rfl⟩ := hq
        go_wp2_with fail
        go_ret
        exact ⟨rfl, HC15.out.trans (by (repeat (with_reducible first | exact Chg.refl _ _ | refine Chg.plus ?_ _ _ | refine Chg.alloc ?_ _ | refine Chg.drew ?_)))⟩
end Go.Proofs.YtmoabfpdlbngeaaGreatDoor
end

section
namespace Go.Proofs.YtmoabfpdlbngeaaGreatDoor
open Go.RowKit
set_option maxHeartbeats 400000
set_option linter.unusedVariables false
set_option linter.unusedSimpArgs false
theorem gPow : Tryz.prog.globalNamed "internal/strconv.uint64pow10" = some 1 := by kernel_rfl
theorem gDb : Tryz.prog.globalNamed "math/bits.deBruijn64tab" = some 3 := by kernel_rfl
theorem gPowT : (Tryz.prog.globals[1]?).map (·.type) = some 227 := by kernel_rfl
theorem gDbT : (Tryz.prog.globals[3]?).map (·.type) = some 233 := by kernel_rfl
theorem c227 : Tryz.prog.cellsOf 227 = 20 := by kernel_rfl
theorem c233 : Tryz.prog.cellsOf 233 = 64 := by kernel_rfl
theorem cel5 : Tryz.prog.cellsOf 5 = 1 := by kernel_rfl
theorem cel22 : Tryz.prog.cellsOf 36 = 1 := by kernel_rfl
/-- The table of math/bits as numbers. -/
def dbTab : List Int := [0, 1, 56, 2, 57, 49, 28, 3, 61, 58, 42, 50, 38, 29, 17, 4, 62, 47, 59, 36, 45, 43, 51, 22, 53, 39, 33, 30, 24, 18, 12, 5, 63, 55, 48, 27, 60, 41, 37, 16, 46, 35, 44, 21, 52, 32, 23, 11, 54, 26, 40, 15, 34, 20, 31, 10, 25, 14, 19, 9, 13, 8, 7, 6]
/-- What the row lists gives the two tables that the walk reads. -/
theorem tabs_in {W : World} (h : laidMetH Tryz.prog [("math/bits.deBruijn32tab", Rows.laid_math_bits_deBruijn32tab), ("math/bits.deBruijn64tab", Rows.laid_math_bits_deBruijn64tab), ("internal/strconv.uint64pow10", Rows.laid_internal_strconv_uint64pow10)] W) : Tabs W := by
  rw [MakeChecks.laidMetH_plain _ _ _ (by kernel_rfl)] at h
  obtain ⟨ps, ⟨g0, t0, cs0, fu0, p0, q0, _, _, _, _, ⟨g1, t1, cs1, fu1, p1, q1, hg1, ht1, hv1, hd1, ⟨g2, t2, cs2, fu2, p2, q2, hg2, ht2, hv2, hd2, _, _⟩, _⟩, _⟩, _, _⟩ := h
  obtain rfl := Option.some.inj (gDb.symm.trans hg1)
  obtain rfl := Option.some.inj (gDbT.symm.trans ht1)
  obtain rfl := Option.some.inj (gPow.symm.trans hg2)
  obtain rfl := Option.some.inj (gPowT.symm.trans ht2)
  refine ⟨?_, ?_⟩
  · have e : Rows.laid_internal_strconv_uint64pow10 = (Lib.tabData .u64 Lib.pow10Tab : DataW Unit) := rfl
    rw [e] at hd2
    unfold Lib.TabIs
    rw [hv2, ← Lib.cells_of_tab Tryz.underlying227 Tryz.underlying36 cel22 c227 hd2]
  · have e : Rows.laid_math_bits_deBruijn64tab = (Lib.tabData .u8 dbTab : DataW Unit) := rfl
    rw [e] at hd1
    have ht : Lib.TabIs Tryz.prog W "math/bits.deBruijn64tab" .u8 dbTab := by
      unfold Lib.TabIs
      rw [hv1, ← Lib.cells_of_tab Tryz.underlying233 Tryz.underlying5 cel5 c233 hd1]
    intro j v hj
    match j, hj with
    | 0, hj =>
      simp only [List.getElem?_cons_zero, Option.some.injEq] at hj
      subst hj
      exact ht.cell gDb 15 (by decide)
    | j + 1, hj => simp at hj
end Go.Proofs.YtmoabfpdlbngeaaGreatDoor
end
