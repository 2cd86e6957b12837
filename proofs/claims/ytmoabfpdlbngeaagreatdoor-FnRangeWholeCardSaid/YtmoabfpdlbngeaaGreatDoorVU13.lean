/-
  Part of the proofs on the laws of pub-addresssets: joined texts (U13, U14).
-/
import Derived.Test.YtmoabfpdlbngeaaGreatDoorVU12
import Derived.Test.YtmoabfpdlbngeaaGreatDoorVU1
section
namespace Go.Proofs.YtmoabfpdlbngeaaGreatDoor
open Go.RowKit
set_option maxHeartbeats 400000
set_option linter.unusedVariables false
set_option linter.unusedSimpArgs false
theorem Chg.dr {F : Nat → Prop} (X : World) (d : Nat) (os : Array Obj) : Chg F (X.drew.plus d os) (X.plus d os) := ⟨rfl, rfl, rfl, Nat.le_refl _, fun _ _ _ => rfl⟩
theorem ChL.one (r : Nat × Nat) {m : Nat} (f : Nat → Nat × Nat) (C : ChV (vK r.1) (vK r.2) m f) : ChL (fun _ => r) 1 m (fun j => pfV (sK r.1) (f j)) := by
  have := ChL.snoc (ChL.nil (f := fun _ => r) (fun _ => (0, 0))) C
  simp only [appF_zero, Nat.zero_add] at this
  exact this
/-- What impl.Covers hands back. -/
def CovP (w : World) (r : Nat × Nat) (e : Ending) (w' : World) : Prop := ∃ p M c F, e = .returned (.tuple #[.slice p M c, .string (toB (txtK r.1 ++ 45 :: txtK r.2)), .bool (decide (M = 1))]) ∧ Hid (Chg (fun _ => False) w w' ∧ Rd layI w' (.slice p M c) M F ∧ ChL (fun _ => r) 1 M F ∧ M ≤ 257)
set_option maxRecDepth 100000 in
set_option maxHeartbeats 4000000 in
theorem c25 (r : Nat × Nat) (or : okR r) (h1 : Pure6 r.1) (h2 : Pure6 r.2) (w : World) : Calls Tryz.prog 25 #[.agg #[.bool (sK r.1), .int .u64 (hK r.1), .int .u64 (mK r.1), .bool (sK r.2), .int .u64 (hK r.2), .int .u64 (mK r.2)]] w (CovP w r) := by
  have HOR : Hid _ := or
  have oa : okK r.1 := or.a
  have ob : okK r.2 := or.b
  have HP1 : Hid (Pure6 r.1) := h1
  have HP2 : Hid (Pure6 r.2) := h2
  clear or h1 h2
  go_enter Tryz.func25, Tryz.ntmps25

  go_upto_region 1 with fail
  go_cut [5] from 8 to 14 (fun t5 wx => ∃ B5, t5 = .pointer (some ⟨B5, 0, none⟩) ∧ Hid (Chg (fun _ => False) w wx ∧ wx.rangeAt B5 0 (rcL r)))
  case first =>
    go_region_held3 (fun w' => KS ((w.alloc (.cells #[.bool (sK r.1), .int .u64 (hK r.1), .int .u64 (mK r.1), .bool (sK r.2), .int .u64 (hK r.2), .int .u64 (mK r.2)] 40))) w') (repeat (first | exact KS.refl _ | assumption | apply KS.drew | apply KS.plus | apply KS.alloc | (refine KS.setCell ?_ _ _ _ (by first | (simp; done) | (simp; omega))))) (first | (go_at_call 52; (with_reducible refine (k52 _ ?_ _).mono ?_); (focus assumption); rintro e w' ⟨rfl, dd, oo, rfl⟩) | (go_at_call 53; (with_reducible refine (k53r r _).mono ?_); rintro e w' ⟨rfl, dd, oo, rfl⟩))
    all_goals (
      go_wp2_with fail
      go_meet
      case rel =>
        refine ⟨_, rfl, by (repeat (with_reducible first | refine Chg.plus ?_ _ _ | refine Chg.alloc ?_ _ | refine Chg.drew ?_ | exact Chg.refl _ _)), ?_⟩
        (repeat (with_reducible first | exact rangeAt_new _ _ r (by simp) | refine rangeAt_plus ?_ _ _ | refine World.rangeAt_alloc ?_ _ | refine (World.rangeAt_drew _ _ _ _).2 ?_)))
  case rest =>
    obtain ⟨B5, rfl, Z⟩ := hcut
    obtain ⟨wk, rfl⟩ : ∃ wk : World, wk = wc := ⟨_, rfl⟩
    have HW : Hid (Chg (fun _ => False) w wk) := Z.out.1
    have R5 : Hid (wk.rangeAt B5 0 (rcL r)) := Z.out.2
    clear Z
    obtain ⟨cd0, cd1, cd2, cd3, cd4, cd5, cd6, cd7, cd8, cd9⟩ := rc_cells R5.out
    simp only [Nat.zero_add] at cd0 cd1 cd2 cd3 cd4 cd5 cd6 cd7 cd8 cd9
    have hB5 : B5 < wk.heap.size := World.block_lt_of_cell? _ _ cd0
    obtain ⟨g1, g2, g3⟩ := vK_range r HOR.out
    obtain ⟨m, g, hCV, hm7⟩ := ChV.ex 128 (vK r.1) (vK r.2) g1 (by rw [Nat.div_eq_of_lt g2, Nat.div_eq_of_lt (by omega)])
    have hm8 : m ≤ 257 := Nat.le_trans hm7 (bdV_le 128 _ _)
    clear g1 g2 g3 hm7
    have HCV : Hid _ := hCV
    clear hCV
    go_upto_region 3 with (first | (go_at_call 61; (with_reducible refine (c61 r HOR.out m g HCV.out _).mono ?_); rintro e w' ⟨x0, x1, x2, x3, x4, x5, rfl, Z⟩; obtain ⟨d6, o6, rfl⟩ := Z.out.2))
    go_cut [2, 3, 4] from 20 to 25 (fun t2 t3 t4 wx => ∃ (p : Option Addr) (c : Nat) (F : Nat → Nat × Nat), t2 = .slice p m c ∧ t3 = .string (toB (txtK r.1 ++ 45 :: txtK r.2)) ∧ t4 = .bool (decide (m = 1)) ∧ Hid (Chg (fun _ => False) w wx ∧ Rd layI wx (.slice p m c) m F ∧ ChL (fun _ => r) 1 m F))
    case first =>
      go_region_with (first
        | (go_at_call 62; (with_reducible refine (c62 r HOR.out (fun _ => (0, 0)) _).mono ?_); rintro e w2 ⟨v', m', f, rfl, Y⟩; obtain ⟨p', c', rfl, _⟩ := Y.out.2.1.form; have HCF := Hid.mk' Y.out.2.2.1; have HOP : Hid (Rd layP w2 (.slice p' m' c') m' (fun j => pfV (sK r.1) (f j))) := (by have := OwnDV.rd Y.out.2.1; rw [appF_zero, Nat.zero_add] at this; exact this); obtain ⟨rfl, _⟩ := HCV.out.uniq HCF.out; obtain ⟨d2, o2, rfl⟩ := (chg_nil Y.out.1).plus_of (fun _ _ => id); clear Y)
        | (go_at_call 34; (with_reducible refine (c34 _ _ _ (by omega) _ (Rd.chg0 HOP.out (by ((repeat (with_reducible refine Chg.trans (Chg.dr _ _ _) ?_)); (repeat (with_reducible first | exact Chg.refl _ _ | refine Chg.plus ?_ _ _ | refine Chg.alloc ?_ _ | refine Chg.drew ?_)); done))) (fun j hj => pfV_ok HOR.out HCF.out j (by omega))).mono ?_); rintro e w3 ⟨p5, c5, rfl, Z5⟩; have HRI := Hid.mk' Z5.out.2.rd; obtain ⟨d3, o3, rfl⟩ := Z5.out.1.plus_of (fun _ _ => id); clear Z5)
        | (go_at_call 63; (with_reducible refine (c63 r HOR.out HP1.out HP2.out _).mono ?_); rintro e w' ⟨rfl, dd, oo, rfl⟩))
      all_goals go_wp2_with fail
      all_goals go_meet
      all_goals first
        | exact ⟨_, _, _, rfl, rfl, rfl, HW.out.trans (by (repeat (with_reducible first | exact Chg.refl _ _ | refine Chg.plus ?_ _ _ | refine Chg.alloc ?_ _ | refine Chg.drew ?_))), Rd.chg0 HRI.out (by ((repeat (with_reducible refine Chg.trans (Chg.dr _ _ _) ?_)); (repeat (with_reducible first | exact Chg.refl _ _ | refine Chg.plus ?_ _ _ | refine Chg.alloc ?_ _ | refine Chg.drew ?_)); done)), ChL.one r _ HCF.out⟩
        | trace_state
    case rest =>
      obtain ⟨p, c, F, rfl, rfl, rfl, Z2⟩ := hcut
      go_wp2_with fail
      exact bodyPost_ret (v := .tuple #[.slice p m c, .string (toB (txtK r.1 ++ 45 :: txtK r.2)), .bool (decide (m = 1))]) (by simp [results, Tryz.results25, go_sem, IntWalk.iteOmega, ↓IntWalk.iteOmega]) rfl ⟨p, m, c, F, rfl, Z2.out.1, Z2.out.2.1, Z2.out.2.2, hm8⟩
end Go.Proofs.YtmoabfpdlbngeaaGreatDoor
end

section
namespace Go.Proofs.YtmoabfpdlbngeaaGreatDoor
open Go.RowKit
set_option maxHeartbeats 400000
set_option linter.unusedVariables false
set_option linter.unusedSimpArgs false
theorem pure_of (k : Nat) (s : Bool) (x y : Int) (b : sK k = s) (c : hK k = x) (d : mK k = y) (hz : s = true → ¬ (x = 0 ∧ y / 4294967296 = 65535)) : Pure6 k := by
  intro hs
  rintro ⟨h1, h2⟩
  rw [hK_N, h1] at c
  rw [mK_six k hs] at d
  exact hz (b.symm.trans hs) ⟨c.symm, by rw [← d]; omega⟩
theorem y49 (b0 b1 b2 b3 : Int) (x0 : 0 ≤ b0) (y0 : b0 < 256) (x1 : 0 ≤ b1) (y1 : b1 < 256) (x2 : 0 ≤ b2) (y2 : b2 < 256) (x3 : 0 ≤ b3) (y3 : b3 < 256) : ∃ k, okK k ∧ sK k = decide (b0 % 2 = 1) ∧ Pure6 k ∧ ∀ w, Calls Tryz.prog 49 #[.agg #[.int .u8 b0, .int .u8 b1, .int .u8 b2, .int .u8 b3]] w fun e w' => e = .returned (.agg #[.bool (sK k), .int .u64 (hK k), .int .u64 (mK k)]) ∧ Plus w w' := by
  have hn := near_in b1 b2 x1 y1 x2 y2
  have n0 : 0 ≤ b1 + b2 % 4 * 256 := by omega
  have n1 : b1 + b2 % 4 * 256 < 1024 := by omega
  generalize b1 + b2 % 4 * 256 = nr at *
  have fin : ∀ (s : Bool) (x y : Int) (hs : s = decide (b0 % 2 = 1)) (hk : ∃ k, okK k ∧ sK k = s ∧ hK k = x ∧ mK k = y) (hz : s = true → ¬ (x = 0 ∧ y / 4294967296 = 65535)), (∀ w, Calls Tryz.prog 49 #[.agg #[.int .u8 b0, .int .u8 b1, .int .u8 b2, .int .u8 b3]] w fun e w' => e = .returned (.agg #[.bool s, .int .u64 x, .int .u64 y]) ∧ Plus w w') → ∃ k, okK k ∧ sK k = decide (b0 % 2 = 1) ∧ Pure6 k ∧ ∀ w, Calls Tryz.prog 49 #[.agg #[.int .u8 b0, .int .u8 b1, .int .u8 b2, .int .u8 b3]] w fun e w' => e = .returned (.agg #[.bool (sK k), .int .u64 (hK k), .int .u64 (mK k)]) ∧ Plus w w' := by
    rintro s x y hs ⟨k, a, b, c, d⟩ hz H
    exact ⟨k, a, b.trans hs, pure_of k s x y b c d hz, fun w => by rw [b, c, d]; exact H w⟩
  have q0 : b0 % 2 = 0 ∨ b0 % 2 = 1 := by omega
  have q3 : b3 % 6 = 0 ∨ b3 % 6 = 1 ∨ b3 % 6 = 2 ∨ b3 % 6 = 3 ∨ b3 % 6 = 4 ∨ b3 % 6 = 5 := by omega
  rcases q0 with h0 | h0
  · have hs : false = decide (b0 % 2 = 1) := (decide_eq_false (by omega)).symm
    rcases q3 with h3 | h3 | h3 | h3 | h3 | h3
    · exact fin _ _ _ hs (key4 _ (by omega) (by omega)) (by first | (intro q; cases q; done) | (intro _; omega)) (c49_00 b0 b1 b2 b3 x0 y0 x1 y1 x2 y2 x3 y3 nr n0 n1 hn h0 h3)
    · exact fin _ _ _ hs (key4 _ (by omega) (by omega)) (by first | (intro q; cases q; done) | (intro _; omega)) (c49_01 b0 b1 b2 b3 x0 y0 x1 y1 x2 y2 x3 y3 nr n0 n1 hn h0 h3)
    · exact fin _ _ _ hs (key4 _ (by omega) (by omega)) (by first | (intro q; cases q; done) | (intro _; omega)) (c49_02 b0 b1 b2 b3 x0 y0 x1 y1 x2 y2 x3 y3 nr n0 n1 hn h0 h3)
    · exact fin _ _ _ hs (key4 _ (by omega) (by omega)) (by first | (intro q; cases q; done) | (intro _; omega)) (c49_03 b0 b1 b2 b3 x0 y0 x1 y1 x2 y2 x3 y3 nr n0 n1 hn h0 h3)
    · have e : bits .and .u64 (nr * 65536) 4294967295 = nr * 65536 := by rw [and32 _ (by omega) (by omega)]; omega
      exact fin _ _ _ hs (key4 _ (by rw [e]; omega) (by rw [e]; omega)) (by first | (intro q; cases q; done) | (intro _; omega)) (c49_04 b0 b1 b2 b3 x0 y0 x1 y1 x2 y2 x3 y3 nr n0 n1 hn h0 h3)
    · exact fin _ _ _ hs (key4 _ (by omega) (by omega)) (by first | (intro q; cases q; done) | (intro _; omega)) (c49_05 b0 b1 b2 b3 x0 y0 x1 y1 x2 y2 x3 y3 nr n0 n1 hn h0 h3)
  · have hs : true = decide (b0 % 2 = 1) := (decide_eq_true h0).symm
    rcases q3 with h3 | h3 | h3 | h3 | h3 | h3
    · exact fin _ _ _ hs (key6 _ _ (by omega) (by omega) (by omega) (by omega)) (by first | (intro q; cases q; done) | (intro _; omega)) (c49_10 b0 b1 b2 b3 x0 y0 x1 y1 x2 y2 x3 y3 nr n0 n1 hn h0 h3)
    · exact fin _ _ _ hs (key6 _ _ (by omega) (by omega) (by omega) (by omega)) (by first | (intro q; cases q; done) | (intro _; omega)) (c49_11 b0 b1 b2 b3 x0 y0 x1 y1 x2 y2 x3 y3 nr n0 n1 hn h0 h3)
    · have e := not64 nr n0 (by omega)
      exact fin _ _ _ hs (key6 _ _ (by omega) (by omega) (by rw [e]; omega) (by rw [e]; omega)) (by first | (intro q; cases q; done) | (intro _; omega)) (c49_12 b0 b1 b2 b3 x0 y0 x1 y1 x2 y2 x3 y3 nr n0 n1 hn h0 h3)
    · exact fin _ _ _ hs (key6 _ _ (by omega) (by omega) (by omega) (by omega)) (by first | (intro q; cases q; done) | (intro _; omega)) (c49_13 b0 b1 b2 b3 x0 y0 x1 y1 x2 y2 x3 y3 nr n0 n1 hn h0 h3)
    · exact fin _ _ _ hs (key6 _ _ (by omega) (by omega) (by omega) (by omega)) (by first | (intro q; cases q; done) | (intro _; omega)) (c49_14 b0 b1 b2 b3 x0 y0 x1 y1 x2 y2 x3 y3 nr n0 n1 hn h0 h3)
    · exact fin _ _ _ hs (key6 _ _ (by omega) (by omega) (by omega) (by omega)) (by first | (intro q; cases q; done) | (intro _; omega)) (c49_15 b0 b1 b2 b3 x0 y0 x1 y1 x2 y2 x3 y3 nr n0 n1 hn h0 h3)
theorem y22 (b0 b1 b2 b3 b4 b5 b6 b7 : Int) (x0 : 0 ≤ b0) (y0 : b0 < 256) (x1 : 0 ≤ b1) (y1 : b1 < 256) (x2 : 0 ≤ b2) (y2 : b2 < 256) (x3 : 0 ≤ b3) (y3 : b3 < 256) (x4 : 0 ≤ b4) (y4 : b4 < 256) (x5 : 0 ≤ b5) (y5 : b5 < 256) (x6 : 0 ≤ b6) (y6 : b6 < 256) (x7 : 0 ≤ b7) (y7 : b7 < 256) : ∃ r, okR r ∧ Pure6 r.1 ∧ Pure6 r.2 ∧ ∀ w, Calls Tryz.prog 22 #[.agg #[.int .u8 b0, .int .u8 b1, .int .u8 b2, .int .u8 b3, .int .u8 b4, .int .u8 b5, .int .u8 b6, .int .u8 b7]] w fun e w' => e = .returned (.agg #[.bool (sK r.1), .int .u64 (hK r.1), .int .u64 (mK r.1), .bool (sK r.2), .int .u64 (hK r.2), .int .u64 (mK r.2)]) ∧ Plus w w' := by
  obtain ⟨a, o1, s1, p1, H1⟩ := y49 b0 b1 b2 b3 x0 y0 x1 y1 x2 y2 x3 y3
  obtain ⟨b, o2, s2, p2, H2⟩ := y49 b0 b5 b6 b7 x0 y0 x5 y5 x6 y6 x7 y7
  refine ⟨(min a b, max a b), ?_, ?_, ?_, fun w => ?_⟩
  · have e : sK a = sK b := s1.trans s2.symm
    by_cases q : a ≤ b
    · rw [show min a b = a by omega, show max a b = b by omega]; exact ⟨o1, o2, e, q⟩
    · rw [show min a b = b by omega, show max a b = a by omega]; exact ⟨o2, o1, e.symm, by show b ≤ a; omega⟩
  · show Pure6 (min a b)
    by_cases q : a ≤ b
    · rw [show min a b = a by omega]; exact p1
    · rw [show min a b = b by omega]; exact p2
  · show Pure6 (max a b)
    by_cases q : a ≤ b
    · rw [show max a b = b by omega]; exact p2
    · rw [show max a b = a by omega]; exact p1
  have HH1 : Hid _ := H1
  have HH2 : Hid _ := H2
  clear H1 H2 s1 s2
  go_enter Tryz.func22, Tryz.ntmps22

  go_wp2_with (first | (go_at_call 49; (first | (with_reducible refine (HH1.out _).mono ?_) | (with_reducible refine (HH2.out _).mono ?_)); rintro e w' ⟨rfl, dd, oo, rfl⟩))
  refine wp_region_plus_tail 7 (by kernel_rfl) (by kernel_rfl) ?_
  simp only [List.take_succ_cons, List.take_zero, List.drop_succ_cons, List.drop_zero]
  repeat (go_big_quiet_step (first | (go_at_call 50; (with_reducible exact Calls.plus_of (k50 a b o1 o2 _))) | (go_at_call 51; (with_reducible exact Calls.plus_of (k51 a b o1 o2 _)))))
  refine wpQuiet_nil ?_
  intro _ hq
  obtain ⟨⟨dq, oq⟩, rfl⟩ := hq
  go_wp2_with fail
  exact bodyPost_ret (v := .agg #[.bool (sK (min a b, max a b).1), .int .u64 (hK (min a b, max a b).1), .int .u64 (mK (min a b, max a b).1), .bool (sK (min a b, max a b).2), .int .u64 (hK (min a b, max a b).2), .int .u64 (mK (min a b, max a b).2)]) (by simp [results, Tryz.results22, go_sem, IntWalk.iteOmega, ↓IntWalk.iteOmega]) rfl ⟨rfl, by repeat (first | exact Plus.refl _ | refine Plus.alloc ?_ _ | refine Plus.plus ?_ _ _ | refine Plus.drew ?_ | refine Plus.drewN ?_ _)⟩
end Go.Proofs.YtmoabfpdlbngeaaGreatDoor
end
