/-
  Part of the proofs on the laws of pub-addresssets: joined texts (T9).
-/
import Derived.Test.YtmoabfpdlbngeaaGreatDoorVT8
section
namespace Go.Proofs.YtmoabfpdlbngeaaGreatDoor
open Go.RowKit
set_option maxHeartbeats 400000
set_option linter.unusedVariables false
set_option linter.unusedSimpArgs false
theorem x49 (b0 b1 b2 b3 : Int) (x0 : 0 ≤ b0) (y0 : b0 < 256) (x1 : 0 ≤ b1) (y1 : b1 < 256) (x2 : 0 ≤ b2) (y2 : b2 < 256) (x3 : 0 ≤ b3) (y3 : b3 < 256) : ∃ k, okK k ∧ sK k = decide (b0 % 2 = 1) ∧ ∀ w, Calls Tryz.prog 49 #[.agg #[.int .u8 b0, .int .u8 b1, .int .u8 b2, .int .u8 b3]] w fun e w' => e = .returned (.agg #[.bool (sK k), .int .u64 (hK k), .int .u64 (mK k)]) ∧ Plus w w' := by
  have hn := near_in b1 b2 x1 y1 x2 y2
  have n0 : 0 ≤ b1 + b2 % 4 * 256 := by omega
  have n1 : b1 + b2 % 4 * 256 < 1024 := by omega
  generalize b1 + b2 % 4 * 256 = nr at *
  have fin : ∀ (s : Bool) (x y : Int) (hs : s = decide (b0 % 2 = 1)) (hk : ∃ k, okK k ∧ sK k = s ∧ hK k = x ∧ mK k = y), (∀ w, Calls Tryz.prog 49 #[.agg #[.int .u8 b0, .int .u8 b1, .int .u8 b2, .int .u8 b3]] w fun e w' => e = .returned (.agg #[.bool s, .int .u64 x, .int .u64 y]) ∧ Plus w w') → ∃ k, okK k ∧ sK k = decide (b0 % 2 = 1) ∧ ∀ w, Calls Tryz.prog 49 #[.agg #[.int .u8 b0, .int .u8 b1, .int .u8 b2, .int .u8 b3]] w fun e w' => e = .returned (.agg #[.bool (sK k), .int .u64 (hK k), .int .u64 (mK k)]) ∧ Plus w w' := by
    rintro s x y hs ⟨k, a, b, c, d⟩ H
    exact ⟨k, a, b.trans hs, fun w => by rw [b, c, d]; exact H w⟩
  have q0 : b0 % 2 = 0 ∨ b0 % 2 = 1 := by omega
  have q3 : b3 % 6 = 0 ∨ b3 % 6 = 1 ∨ b3 % 6 = 2 ∨ b3 % 6 = 3 ∨ b3 % 6 = 4 ∨ b3 % 6 = 5 := by omega
  rcases q0 with h0 | h0
  · have hs : false = decide (b0 % 2 = 1) := (decide_eq_false (by omega)).symm
    rcases q3 with h3 | h3 | h3 | h3 | h3 | h3
    · exact fin _ _ _ hs (key4 _ (by omega) (by omega)) (c49_00 b0 b1 b2 b3 x0 y0 x1 y1 x2 y2 x3 y3 nr n0 n1 hn h0 h3)
    · exact fin _ _ _ hs (key4 _ (by omega) (by omega)) (c49_01 b0 b1 b2 b3 x0 y0 x1 y1 x2 y2 x3 y3 nr n0 n1 hn h0 h3)
    · exact fin _ _ _ hs (key4 _ (by omega) (by omega)) (c49_02 b0 b1 b2 b3 x0 y0 x1 y1 x2 y2 x3 y3 nr n0 n1 hn h0 h3)
    · exact fin _ _ _ hs (key4 _ (by omega) (by omega)) (c49_03 b0 b1 b2 b3 x0 y0 x1 y1 x2 y2 x3 y3 nr n0 n1 hn h0 h3)
    · have e : bits .and .u64 (nr * 65536) 4294967295 = nr * 65536 := by rw [and32 _ (by omega) (by omega)]; omega
      exact fin _ _ _ hs (key4 _ (by rw [e]; omega) (by rw [e]; omega)) (c49_04 b0 b1 b2 b3 x0 y0 x1 y1 x2 y2 x3 y3 nr n0 n1 hn h0 h3)
    · exact fin _ _ _ hs (key4 _ (by omega) (by omega)) (c49_05 b0 b1 b2 b3 x0 y0 x1 y1 x2 y2 x3 y3 nr n0 n1 hn h0 h3)
  · have hs : true = decide (b0 % 2 = 1) := (decide_eq_true h0).symm
    rcases q3 with h3 | h3 | h3 | h3 | h3 | h3
    · exact fin _ _ _ hs (key6 _ _ (by omega) (by omega) (by omega) (by omega)) (c49_10 b0 b1 b2 b3 x0 y0 x1 y1 x2 y2 x3 y3 nr n0 n1 hn h0 h3)
    · exact fin _ _ _ hs (key6 _ _ (by omega) (by omega) (by omega) (by omega)) (c49_11 b0 b1 b2 b3 x0 y0 x1 y1 x2 y2 x3 y3 nr n0 n1 hn h0 h3)
    · have e := not64 nr n0 (by omega)
      exact fin _ _ _ hs (key6 _ _ (by omega) (by omega) (by rw [e]; omega) (by rw [e]; omega)) (c49_12 b0 b1 b2 b3 x0 y0 x1 y1 x2 y2 x3 y3 nr n0 n1 hn h0 h3)
    · exact fin _ _ _ hs (key6 _ _ (by omega) (by omega) (by omega) (by omega)) (c49_13 b0 b1 b2 b3 x0 y0 x1 y1 x2 y2 x3 y3 nr n0 n1 hn h0 h3)
    · exact fin _ _ _ hs (key6 _ _ (by omega) (by omega) (by omega) (by omega)) (c49_14 b0 b1 b2 b3 x0 y0 x1 y1 x2 y2 x3 y3 nr n0 n1 hn h0 h3)
    · exact fin _ _ _ hs (key6 _ _ (by omega) (by omega) (by omega) (by omega)) (c49_15 b0 b1 b2 b3 x0 y0 x1 y1 x2 y2 x3 y3 nr n0 n1 hn h0 h3)
theorem x22 (b0 b1 b2 b3 b4 b5 b6 b7 : Int) (x0 : 0 ≤ b0) (y0 : b0 < 256) (x1 : 0 ≤ b1) (y1 : b1 < 256) (x2 : 0 ≤ b2) (y2 : b2 < 256) (x3 : 0 ≤ b3) (y3 : b3 < 256) (x4 : 0 ≤ b4) (y4 : b4 < 256) (x5 : 0 ≤ b5) (y5 : b5 < 256) (x6 : 0 ≤ b6) (y6 : b6 < 256) (x7 : 0 ≤ b7) (y7 : b7 < 256) : ∃ r, okR r ∧ ∀ w, Calls Tryz.prog 22 #[.agg #[.int .u8 b0, .int .u8 b1, .int .u8 b2, .int .u8 b3, .int .u8 b4, .int .u8 b5, .int .u8 b6, .int .u8 b7]] w fun e w' => e = .returned (.agg #[.bool (sK r.1), .int .u64 (hK r.1), .int .u64 (mK r.1), .bool (sK r.2), .int .u64 (hK r.2), .int .u64 (mK r.2)]) ∧ Plus w w' := by
  obtain ⟨a, o1, s1, H1⟩ := x49 b0 b1 b2 b3 x0 y0 x1 y1 x2 y2 x3 y3
  obtain ⟨b, o2, s2, H2⟩ := x49 b0 b5 b6 b7 x0 y0 x5 y5 x6 y6 x7 y7
  refine ⟨(min a b, max a b), ?_, fun w => ?_⟩
  · have e : sK a = sK b := s1.trans s2.symm
    by_cases q : a ≤ b
    · rw [show min a b = a by omega, show max a b = b by omega]; exact ⟨o1, o2, e, q⟩
    · rw [show min a b = b by omega, show max a b = a by omega]; exact ⟨o2, o1, e.symm, by show b ≤ a; omega⟩
  have HH1 : Hid _ := H1
  have HH2 : Hid _ := H2
  clear H1 H2 s1 s2
  go_enter Tryz.func22, Tryz.ntmps22

  go_wp2_with (first | (go_at_call 49; (first | (with_reducible refine (HH1.out _).mono ?_) | (with_reducible refine (HH2.out _).mono ?_)); rintro e w' ⟨rfl, dd, oo, rfl⟩))
  refine wp_region_plus_tail 7 (by kernel_rfl) (by kernel_rfl) ?_
  simp only [List.take_succ_cons, List.take_zero, List.drop_succ_cons, List.drop_zero]
  repeat (go_big_quiet_step (first | (go_at_call 50; (with_reducible exact Calls.plus_of (k50 a b o1 o2 _))) | (go_at_call 51; (with_reducible exact Calls.plus_of (k51 a b o1 o2 _)))))
  refine wpQuiet_nil ?_
  intro _ hq
  obtain ⟨⟨dq, oq⟩, rfl⟩ := hq
  go_wp2_with fail
  exact bodyPost_ret (v := .agg #[.bool (sK (min a b, max a b).1), .int .u64 (hK (min a b, max a b).1), .int .u64 (mK (min a b, max a b).1), .bool (sK (min a b, max a b).2), .int .u64 (hK (min a b, max a b).2), .int .u64 (mK (min a b, max a b).2)]) (by simp [results, Tryz.results22, go_sem, IntWalk.iteOmega, ↓IntWalk.iteOmega]) rfl ⟨rfl, by repeat (first | exact Plus.refl _ | refine Plus.alloc ?_ _ | refine Plus.plus ?_ _ _ | refine Plus.drew ?_ | refine Plus.drewN ?_ _)⟩
/-- As ScP, with the row's own block told. -/
def ScX (w : World) (e : Ending) (w' : World) : Prop := ∃ p m c g, e = .returned (.slice p m c) ∧ Hid (Chg (fun _ => False) w w' ∧ OwnDV layS 42 w' (.slice p m c) m g ∧ (∀ k, (Value.slice p m c).ownBlock = some k → w.heap.size ≤ k) ∧ m ≤ 40 ∧ ∀ i, i < m → okStep (g i))
set_option maxRecDepth 100000 in
set_option maxHeartbeats 4000000 in
theorem c8x (v0 : Value) (n : Nat) (f : Nat → Nat) (hn : n ≤ 2147483647) (w : World) (H : Rd layB w v0 n f) (hf : ∀ i, i < n → f i < 256) :
    Calls Tryz.prog 8 #[v0] w (ScX w) := by
  obtain ⟨p, c, rfl, hnc, hr⟩ := H
  have HR : Hid (Rd layB w (.slice p n c) n f) := ⟨p, c, rfl, hnc, hr⟩
  have HF : Hid _ := hf
  clear hr hf
  go_enter Tryz.func8, Tryz.ntmps8

  go_wp2_with fail
  go_loopw [0, 3] (fun t0 t3 wr => ∃ (n1 m c1 c0 : Nat) (p1 p0 : Option Addr) (f1 : Nat → Nat) (g : Nat → StepV), t0 = .slice p1 n1 c1 ∧ t3 = .slice p0 m c0 ∧ n1 ≤ n ∧ m ≤ 40 ∧ Hid (ScR w wr (.slice p1 n1 c1) (.slice p0 m c0) n1 m f1 g))
    (fun t0 _ _ => lenOf t0)
  case atStart => exact ⟨n, 0, c, 0, p, none, f, fun _ => ⟨0, (0, 0), 0⟩, rfl, rfl, Nat.le_refl _, by omega, ⟨.refl _ _, HR.out, HF.out, .nil _, fun k e => by simp [Value.ownBlock] at e, fun i hi => by omega⟩⟩
  case round =>
    clear HR HF f hnc p c
    obtain ⟨n1, m, c1, c0, p1, p0, f, g, rfl, rfl, hn1, hm, X⟩ := hrel
    by_cases hlt : 10 ≤ n1
    · by_cases hlm : m < 40
      · obtain ⟨q1, q2, eq, ql, hrow0⟩ := X.out.rd
        obtain ⟨G, o, e1, hrow⟩ := hrow0 (by omega)
        clear hrow0
        simp only [Value.slice.injEq, true_and] at eq
        obtain ⟨e2, e3⟩ := eq
        subst e3 e2 e1
        have hby := X.out.by8
        have hrow' : ∀ i, i < n1 → wr.cell? ⟨G, o + i, none⟩ = some (.int .u8 ((f i : Nat) : Int)) := fun i hi => by
          have := by_cells (hrow i hi)
          rwa [show o + i * layB.c = o + i by show o + i * 1 = o + i; omega] at this
        have HROW : Hid (∀ i, i < n1 → wr.rangeAt G (o + i * 1) (byL (f i))) := hrow
        have HCELL : Hid _ := hrow'
        have y0 := hby 0 (by omega)
        have y1 := hby 1 (by omega)
        have y2 := hby 2 (by omega)
        have y3 := hby 3 (by omega)
        have y4 := hby 4 (by omega)
        have y5 := hby 5 (by omega)
        have y6 := hby 6 (by omega)
        have y7 := hby 7 (by omega)
        have y8 := hby 8 (by omega)
        have y9 := hby 9 (by omega)
        clear hrow hrow' hby
        have zm : decide ((m : Int) < 40) = true := decide_eq_true (by omega)
        have zm1 : (m : Int) < 40 := by omega
        have z0 : 0 < n1 := by omega
        have z9 : 9 < n1 := by omega
        have z99 : (9 : Int) < (n1 : Int) := by omega
        have z00 : (0 : Int) < (n1 : Int) := by omega
        have zc : 9 ≤ c1 := by omega
        have zci : (9 : Int) ≤ (c1 : Int) := by omega
        have zc1 : ¬ c1 = 1 := by omega
        obtain ⟨jj, HJ⟩ : ∃ j, Hid (f 0 % 17 = j ∧ j < 17) := ⟨_, rfl, Nat.mod_lt _ (by omega)⟩
        go_upto_region 3 with fail
        go_cut [4] from 14 to 64 (fun t4 wx => ∃ b4 : Nat, t4 = .slice (some ⟨b4, 0, none⟩) 17 17 ∧ Hid (Chg (fun _ => False) wr wx ∧ wx.cell? ⟨b4, jj, none⟩ = some (.int .i64 ((kindF jj : Nat) : Int))))
        case first =>
          go_wp2_with fail
          go_meet
          case rel => exact ⟨_, rfl, by (repeat (with_reducible first | refine Chg.plus ?_ _ _ | refine Chg.alloc ?_ _ | refine Chg.drew ?_ | exact Chg.refl _ _)), kinds_cell _ _ _ HJ.out.2 rfl⟩
        case rest =>
          obtain ⟨b4, rfl, Z⟩ := hcut
          have HW : Hid (Chg (fun _ => False) wr wc) := Z.out.1
          have ck := Z.out.2
          have hb4 : b4 < wc.heap.size := World.block_lt_of_cell? _ _ ck
          have cell : ∀ i, i < n1 → wc.cell? ⟨G, o + i, none⟩ = some (.int .u8 ((f i : Nat) : Int)) := fun i hi => (World.cell?_of_block (HW.out.block G (World.block_lt_of_cell? _ _ (HCELL.out i hi)) id)).trans (HCELL.out i hi)
          have cd0 := cell 0 (by omega)
          rw [Nat.add_zero] at cd0
          have cd1 := cell 1 (by omega)
          have cd2 := cell 2 (by omega)
          have cd3 := cell 3 (by omega)
          have cd4 := cell 4 (by omega)
          have cd5 := cell 5 (by omega)
          have cd6 := cell 6 (by omega)
          have cd7 := cell 7 (by omega)
          have cd8 := cell 8 (by omega)
          have cd9 := cell 9 (by omega)
          have hG : G < wc.heap.size := World.block_lt_of_cell? _ _ cd0
          have hw0 : IntKind.i64.wrap ((f 0 : Nat) : Int) = ((f 0 : Nat) : Int) := IntWalk.i64_in _ (by omega)
          have hmod2 : (((f 0 : Nat) : Int)).tmod 17 = (jj : Int) := by rw [Int.tmod_eq_emod_of_nonneg (by omega)]; have := HJ.out.1; omega
          have hj1 : (jj : Int) < 17 := by have := HJ.out.2; omega
          have hj2 : jj < 17 := HJ.out.2
          clear Z cell
          go_upto_region 4 with fail
          go_cut [5] from 14 to 64 (fun t5 wx => ∃ (b5 : Nat) (r : Nat × Nat), t5 = .pointer (some ⟨b5, 0, none⟩) ∧ Hid (okR r ∧ Chg (fun _ => False) wc wx ∧ wx.heap[b5]? = some (.cells #[.int .i64 ((kindF jj : Nat) : Int), .bool (sK r.1), .int .u64 (hK r.1), .int .u64 (mK r.1), .bool (sK r.2), .int .u64 (hK r.2), .int .u64 (mK r.2), .int .i64 0] 42 (0, 0)) ∧ wc.heap.size ≤ b5))
          case first =>
            go_region_held3 (fun w' => KS (wc) w') (repeat (first | exact KS.refl _ | assumption | apply KS.drew | apply KS.plus | apply KS.alloc | (refine KS.setCell ?_ _ _ _ (by first | (simp; done) | (simp; omega))))) (first | (go_at_call 22; (refine (k22 _ _ _ _ _ _ _ _ (by omega) (by omega) (by omega) (by omega) (by omega) (by omega) (by omega) (by omega) (by omega) (by omega) (by omega) (by omega) (by omega) (by omega) (by omega) (by omega) _).mono ?_); rintro e w' ⟨r, rfl, Z⟩; obtain ⟨or, dd, oo, rfl⟩ := Z.out; have OR : Hid (okR r) := or; clear Z or))
            all_goals (
              go_wp2_with fail
              go_meet
              case rel =>
                refine ⟨_, r, rfl, OR.out, by (repeat (with_reducible first | refine Chg.plus ?_ _ _ | refine Chg.alloc ?_ _ | refine Chg.drew ?_ | exact Chg.refl _ _)), ?_, by simp; try omega⟩
                (repeat (with_reducible first | exact blk_new (by simp) | refine blk_plus ?_ _ _ | refine blk_alloc ?_ _ | refine blk_drew ?_)))
          case rest =>
            clear cd0 cd1 cd2 cd3 cd4 cd5 cd6 cd7 cd8 ck hb4 hw0 hmod2 hj1 hj2
            obtain ⟨b5, r, rfl, Z⟩ := hcut
            have OR : Hid (okR r) := Z.out.1
            have HW1 : Hid _ := Z.out.2.1
            have HB5 : Hid _ := Z.out.2.2.1
            have HL5 : Hid (_ ≤ b5) := Z.out.2.2.2
            have hk0 := HB5.out
            have cx0 := (cell_of_row wc b5 0 _ 42 (0, 0) hk0)
            have cx1 := (cell_of_row wc b5 1 _ 42 (0, 0) hk0)
            have cx2 := (cell_of_row wc b5 2 _ 42 (0, 0) hk0)
            have cx3 := (cell_of_row wc b5 3 _ 42 (0, 0) hk0)
            have cx4 := (cell_of_row wc b5 4 _ 42 (0, 0) hk0)
            have cx5 := (cell_of_row wc b5 5 _ 42 (0, 0) hk0)
            have cx6 := (cell_of_row wc b5 6 _ 42 (0, 0) hk0)
            have cx7 := (cell_of_row wc b5 7 _ 42 (0, 0) hk0)
            have fx7 : wc.frozen? ⟨b5, 7, none⟩ = false := by unfold World.frozen?; simp [hk0]
            have hl5 : b5 < wc.heap.size := (Array.getElem?_eq_some_iff.1 hk0).1
            simp only [List.getElem?_toArray, List.getElem?_cons_zero, List.getElem?_cons_succ] at cx0 cx1 cx2 cx3 cx4 cx5 cx6 cx7
            clear Z hk0
            obtain ⟨cell9, _⟩ : wc.cell? ⟨G, o + 9, none⟩ = some (.int .u8 ((f 9 : Nat) : Int)) ∧ True := ⟨(World.cell?_of_block (HW1.out.block G (by omega) id)).trans cd9, trivial⟩
            have hG' : G < wc.heap.size := World.block_lt_of_cell? _ _ cell9
            have hlen1 : lenK r.1 ≤ 128 := by unfold lenK; split <;> omega
            have hlen2 : 32 ≤ lenK r.1 := by unfold lenK; split <;> omega
            go_upto_region 5 with fail
            refine wp_region_plus_tail 11 (by kernel_rfl) (by kernel_rfl) ?_
            simp only [List.take_succ_cons, List.take_zero, List.drop_succ_cons, List.drop_zero]
            repeat (go_big_quiet_step (first | (go_at_call 18; (with_reducible exact Calls.plus_of (k18 r.1 _)))))
            refine wpQuiet_nil ?_
            intro _ hq
            obtain ⟨⟨dq, oq⟩, rfl⟩ := hq
            have HGE : Hid (wr.heap.size ≤ b5) := Nat.le_trans HW.out.size HL5.out
            have HWC : Hid (Chg (fun _ => False) wr wc) := HW.out.trans HW1.out
            clear HW HW1 HL5
            by_cases hb : f 9 / 12 % 8 = 0
            · have hbb : (((f 9 : Nat) : Int) / 12 % 8 == 0) = true := by rw [beq_iff_eq]; omega
              obtain ⟨bb, hbv⟩ : ∃ b : Nat, Hid (((f 9 : Nat) : Int) % (((lenK r.1 : Nat) : Int) + 1) = (b : Int) ∧ b ≤ lenK r.1) := ⟨f 9 % (lenK r.1 + 1), by rw [Int.natCast_emod, Int.natCast_add]; rfl, by have := Nat.mod_lt (f 9) (show 0 < lenK r.1 + 1 by omega); omega⟩
              clear hb
              go_wp2_with fail
              refine wp_region_plus_tail 11 (by kernel_rfl) (by kernel_rfl) ?_
              simp only [List.take_succ_cons, List.take_zero, List.drop_succ_cons, List.drop_zero]
              repeat (go_big_quiet_step (first | (go_at_call 18; (with_reducible exact Calls.plus_of (k18 r.1 _)))))
              refine wpQuiet_nil ?_
              intro _ hq
              obtain ⟨⟨dq, oq⟩, rfl⟩ := hq
              by_cases hc10 : c1 = 10
              · go_wp2_with (first | (at_builtin; refine appD rfl (.tmp 59) (.tmp 61) 23 64 infoS under23 (by omega) rfl (.slice p0 m c0) m g rfl ((ScR.chg0 X.out (by (repeat (with_reducible first | exact Chg.refl _ _ | exact HWC.out | refine Chg.plus ?_ _ _ | refine Chg.alloc ?_ _ | refine Chg.drew ?_ | (refine Chg.setCell ?_ _ _ (fun h => absurd h (by have := HGE.out; have := HWC.out.size; simp only []; omega))))))).own) 1 (fun _ => ⟨kindF jj, r, bb⟩) (Rd.newSt ⟨kindF jj, r, bb⟩ (by simp) (by have e := hbv.out.1; unfold stL; simp only [e])) (by omega) ?_; intro p2 c2 w2 hO hC hat; have HY : Hid (Chg (fun _ => False) w w2 ∧ OwnDV layS 42 w2 (.slice p2 (m + 1) c2) (m + 1) (snocS m g ⟨kindF jj, r, bb⟩) ∧ (∀ k, (Value.slice p2 (m + 1) c2).ownBlock = some k → w.heap.size ≤ k)) := scr_app (ScR.chg0 X.out (by (repeat (with_reducible first | exact Chg.refl _ _ | exact HWC.out | refine Chg.plus ?_ _ _ | refine Chg.alloc ?_ _ | refine Chg.drew ?_ | (refine Chg.setCell ?_ _ _ (fun h => absurd h (by have := HGE.out; have := HWC.out.size; simp only []; omega))))))) hO.out hC hat.out; clear hO hC hat))
                go_roundw
                case rel =>
                  obtain ⟨u1, u2, u3⟩ := HY.out
                  have u4 := X.out.src
                  refine ⟨n1 - 10, m + 1, 0, c2, some ⟨G, o, none⟩, p2, fun i => f (10 + i), snocS m g ⟨kindF jj, r, bb⟩, rfl, rfl, by omega, by omega, ⟨u1, ?_, ?_, u2, u3, ?_⟩⟩
                  · have := Rd.drop1 (rd_rows u4) 10 (some ⟨G, o, none⟩) (fun q => by omega) (c := c1) (by omega)
                    rwa [show c1 - 10 = 0 by omega] at this
                  · exact fun i hi => X.out.by8 (10 + i) (by omega)
                  · exact ok_snoc X.out.ok ⟨kindF_le jj, OR.out, hbv.out.2⟩
                case measure => simp [lenOf]; omega

              · go_wp2_with (first | (at_builtin; refine appD rfl (.tmp 59) (.tmp 61) 23 64 infoS under23 (by omega) rfl (.slice p0 m c0) m g rfl ((ScR.chg0 X.out (by (repeat (with_reducible first | exact Chg.refl _ _ | exact HWC.out | refine Chg.plus ?_ _ _ | refine Chg.alloc ?_ _ | refine Chg.drew ?_ | (refine Chg.setCell ?_ _ _ (fun h => absurd h (by have := HGE.out; have := HWC.out.size; simp only []; omega))))))).own) 1 (fun _ => ⟨kindF jj, r, bb⟩) (Rd.newSt ⟨kindF jj, r, bb⟩ (by simp) (by have e := hbv.out.1; unfold stL; simp only [e])) (by omega) ?_; intro p2 c2 w2 hO hC hat; have HY : Hid (Chg (fun _ => False) w w2 ∧ OwnDV layS 42 w2 (.slice p2 (m + 1) c2) (m + 1) (snocS m g ⟨kindF jj, r, bb⟩) ∧ (∀ k, (Value.slice p2 (m + 1) c2).ownBlock = some k → w.heap.size ≤ k)) := scr_app (ScR.chg0 X.out (by (repeat (with_reducible first | exact Chg.refl _ _ | exact HWC.out | refine Chg.plus ?_ _ _ | refine Chg.alloc ?_ _ | refine Chg.drew ?_ | (refine Chg.setCell ?_ _ _ (fun h => absurd h (by have := HGE.out; have := HWC.out.size; simp only []; omega))))))) hO.out hC hat.out; clear hO hC hat))
                go_roundw
                case rel =>
                  obtain ⟨u1, u2, u3⟩ := HY.out
                  have u4 := X.out.src
                  refine ⟨n1 - 10, m + 1, c1 - 10, c2, _, p2, fun i => f (10 + i), snocS m g ⟨kindF jj, r, bb⟩, rfl, rfl, by omega, by omega, ⟨u1, ?_, ?_, u2, u3, ?_⟩⟩
                  · exact Rd.drop1 (rd_rows u4) 10 _ (fun q => by first | rfl | omega) (by omega)
                  · exact fun i hi => X.out.by8 (10 + i) (by omega)
                  · exact ok_snoc X.out.ok ⟨kindF_le jj, OR.out, hbv.out.2⟩
                case measure => simp [lenOf]; omega

            · have hbb : (((f 9 : Nat) : Int) / 12 % 8 == 0) = false := by rw [beq_eq_false_iff_ne]; omega
              obtain ⟨bb, hbv⟩ : ∃ b : Nat, Hid (((lenK r.1 : Nat) : Int) - ((f 9 : Nat) : Int) % 12 = (b : Int) ∧ b ≤ lenK r.1) := ⟨lenK r.1 - f 9 % 12, by omega, by omega⟩
              clear hb
              by_cases hc10 : c1 = 10
              · go_wp2_with (first | (at_builtin; refine appD rfl (.tmp 59) (.tmp 61) 23 64 infoS under23 (by omega) rfl (.slice p0 m c0) m g rfl ((ScR.chg0 X.out (by (repeat (with_reducible first | exact Chg.refl _ _ | exact HWC.out | refine Chg.plus ?_ _ _ | refine Chg.alloc ?_ _ | refine Chg.drew ?_ | (refine Chg.setCell ?_ _ _ (fun h => absurd h (by have := HGE.out; have := HWC.out.size; simp only []; omega))))))).own) 1 (fun _ => ⟨kindF jj, r, bb⟩) (Rd.newSt ⟨kindF jj, r, bb⟩ (by simp) (by have e := hbv.out.1; unfold stL; simp only [e])) (by omega) ?_; intro p2 c2 w2 hO hC hat; have HY : Hid (Chg (fun _ => False) w w2 ∧ OwnDV layS 42 w2 (.slice p2 (m + 1) c2) (m + 1) (snocS m g ⟨kindF jj, r, bb⟩) ∧ (∀ k, (Value.slice p2 (m + 1) c2).ownBlock = some k → w.heap.size ≤ k)) := scr_app (ScR.chg0 X.out (by (repeat (with_reducible first | exact Chg.refl _ _ | exact HWC.out | refine Chg.plus ?_ _ _ | refine Chg.alloc ?_ _ | refine Chg.drew ?_ | (refine Chg.setCell ?_ _ _ (fun h => absurd h (by have := HGE.out; have := HWC.out.size; simp only []; omega))))))) hO.out hC hat.out; clear hO hC hat))
                go_roundw
                case rel =>
                  obtain ⟨u1, u2, u3⟩ := HY.out
                  have u4 := X.out.src
                  refine ⟨n1 - 10, m + 1, 0, c2, some ⟨G, o, none⟩, p2, fun i => f (10 + i), snocS m g ⟨kindF jj, r, bb⟩, rfl, rfl, by omega, by omega, ⟨u1, ?_, ?_, u2, u3, ?_⟩⟩
                  · have := Rd.drop1 (rd_rows u4) 10 (some ⟨G, o, none⟩) (fun q => by omega) (c := c1) (by omega)
                    rwa [show c1 - 10 = 0 by omega] at this
                  · exact fun i hi => X.out.by8 (10 + i) (by omega)
                  · exact ok_snoc X.out.ok ⟨kindF_le jj, OR.out, hbv.out.2⟩
                case measure => simp [lenOf]; omega

              · go_wp2_with (first | (at_builtin; refine appD rfl (.tmp 59) (.tmp 61) 23 64 infoS under23 (by omega) rfl (.slice p0 m c0) m g rfl ((ScR.chg0 X.out (by (repeat (with_reducible first | exact Chg.refl _ _ | exact HWC.out | refine Chg.plus ?_ _ _ | refine Chg.alloc ?_ _ | refine Chg.drew ?_ | (refine Chg.setCell ?_ _ _ (fun h => absurd h (by have := HGE.out; have := HWC.out.size; simp only []; omega))))))).own) 1 (fun _ => ⟨kindF jj, r, bb⟩) (Rd.newSt ⟨kindF jj, r, bb⟩ (by simp) (by have e := hbv.out.1; unfold stL; simp only [e])) (by omega) ?_; intro p2 c2 w2 hO hC hat; have HY : Hid (Chg (fun _ => False) w w2 ∧ OwnDV layS 42 w2 (.slice p2 (m + 1) c2) (m + 1) (snocS m g ⟨kindF jj, r, bb⟩) ∧ (∀ k, (Value.slice p2 (m + 1) c2).ownBlock = some k → w.heap.size ≤ k)) := scr_app (ScR.chg0 X.out (by (repeat (with_reducible first | exact Chg.refl _ _ | exact HWC.out | refine Chg.plus ?_ _ _ | refine Chg.alloc ?_ _ | refine Chg.drew ?_ | (refine Chg.setCell ?_ _ _ (fun h => absurd h (by have := HGE.out; have := HWC.out.size; simp only []; omega))))))) hO.out hC hat.out; clear hO hC hat))
                go_roundw
                case rel =>
                  obtain ⟨u1, u2, u3⟩ := HY.out
                  have u4 := X.out.src
                  refine ⟨n1 - 10, m + 1, c1 - 10, c2, _, p2, fun i => f (10 + i), snocS m g ⟨kindF jj, r, bb⟩, rfl, rfl, by omega, by omega, ⟨u1, ?_, ?_, u2, u3, ?_⟩⟩
                  · exact Rd.drop1 (rd_rows u4) 10 _ (fun q => by first | rfl | omega) (by omega)
                  · exact fun i hi => X.out.by8 (10 + i) (by omega)
                  · exact ok_snoc X.out.ok ⟨kindF_le jj, OR.out, hbv.out.2⟩
                case measure => simp [lenOf]; omega

      · have zm : decide ((m : Int) < 40) = false := decide_eq_false (by omega)
        go_wp2_with fail
        go_ret
        exact ⟨_, m, _, g, rfl, X.out.chg, X.out.own, X.out.ge, hm, X.out.ok⟩
    · go_wp2_with fail
      go_ret
      exact ⟨_, m, _, g, rfl, X.out.chg, X.out.own, X.out.ge, hm, X.out.ok⟩
theorem Chg.realloc (X : World) (o o' : Obj) (d : Nat) (os : Array Obj) : Chg (fun q => q = X.heap.size) ((X.alloc o).drew.plus d os) ((X.alloc o').plus d os) := by
  refine ⟨rfl, rfl, rfl, by show (X.heap.push o ++ os).size ≤ (X.heap.push o' ++ os).size; simp, fun q hq hn => ?_⟩
  show ((X.heap.push o') ++ os)[q]? = ((X.heap.push o) ++ os)[q]?
  have hn' : ¬ q = X.heap.size := hn
  rw [Array.getElem?_append, Array.getElem?_append, Array.size_push, Array.size_push]
  split
  · rw [Array.getElem?_push, Array.getElem?_push, if_neg hn', if_neg hn']
  · rfl
theorem c20p (v0 : Value) (m : Nat) (h : Nat → Nat × Nat) (hm : m ≤ 20000000) (a b : Nat) (o : okR (a, b)) (w : World) (H : Rd layQ w v0 m h) (ok : ∀ i, i < m → okR (h i)) (x : Bool) (hx : x = true ↔ ∀ k, a ≤ k ∧ k ≤ b → MemR m h k) : Calls Tryz.prog 20 #[v0, .agg #[.bool (sK a), .int .u64 (hK a), .int .u64 (mK a), .bool (sK b), .int .u64 (hK b), .int .u64 (mK b)]] w fun e w' => e = .returned (.bool x) ∧ Plus w w' :=
  (c20 v0 m h hm (a, b) o w H ok).mono (fun _ _ z => z.told x hx)
theorem c23p (v0 : Value) (m : Nat) (h : Nat → Nat × Nat) (hm : m ≤ 40000000) (a b : Nat) (o : okR (a, b)) (w : World) (H : Rd layQ w v0 m h) (ok : ∀ i, i < m → okR (h i)) (x : Bool) (hx : x = true ↔ ∃ i, i < m ∧ ((h i).1 ≤ b ∧ a ≤ (h i).2)) : Calls Tryz.prog 23 #[v0, .agg #[.bool (sK a), .int .u64 (hK a), .int .u64 (mK a), .bool (sK b), .int .u64 (hK b), .int .u64 (mK b)]] w fun e w' => e = .returned (.bool x) ∧ Plus w w' :=
  (c23 v0 m h hm (a, b) o w H ok).mono (fun _ _ z => z.told x hx)
/-- The answers as the lists of the reference tell them. -/
theorem ask_told {m m2 m' K2 : Nat} {h h2 h' hk : Nat → Nat × Nat} {S T : Nat → Prop} {r : Nat × Nat} {n : Nat} {b : Nat → Bool} (or : okR r) (hn : n ≤ lenK r.1) (C : CanonR m h) (M : ∀ k, MemR m h k ↔ S k) (C' : CanonR m' h') (M' : ∀ k, MemR m' h' k ↔ T k) (C2 : CanonR m2 h2) (M2 : ∀ k, MemR m2 h2 k ↔ S k) (CK : CanonR K2 hk) (MK : ∀ k, MemR K2 hk k ↔ T k) (A : AskQ m h m' h' r n b) (px py : Nat) (hp : pfR r.1 n = (px, py)) :
    (b 0 = true ↔ ∀ k, r.1 ≤ k ∧ k ≤ r.1 → MemR m2 h2 k) ∧ (b 1 = true ↔ ∀ k, r.1 ≤ k ∧ k ≤ r.2 → MemR m2 h2 k) ∧ (b 2 = true ↔ ∃ i, i < m2 ∧ ((h2 i).1 ≤ r.2 ∧ r.1 ≤ (h2 i).2)) ∧ (b 3 = true ↔ ∀ k, px ≤ k ∧ k ≤ py → MemR m2 h2 k) ∧ (b 4 = true ↔ ∃ i, i < m2 ∧ ((h2 i).1 ≤ py ∧ px ≤ (h2 i).2)) ∧ (b 5 = true ↔ ∃ j, j < K2 ∧ ∃ i, i < m2 ∧ ((h2 i).1 ≤ (hk j).2 ∧ (hk j).1 ≤ (h2 i).2)) := by
  obtain ⟨rfl, e⟩ := (canon_iff C C2 M M2).2 (fun k => Iff.rfl)
  obtain ⟨rfl, e'⟩ := (canon_iff C' CK M' MK).2 (fun k => Iff.rfl)
  obtain ⟨a0, a1, a2, a3, a4, a5⟩ := A
  rw [hp] at a3 a4
  have MM : ∀ k, MemR m h k ↔ MemR m h2 k := fun k => (M k).trans (M2 k).symm
  have ex : ∀ Q : Nat × Nat → Prop, (∃ i, i < m ∧ Q (h i)) ↔ ∃ i, i < m ∧ Q (h2 i) := fun Q =>
    ⟨fun ⟨i, q1, q2⟩ => ⟨i, q1, by rw [← e i q1]; exact q2⟩, fun ⟨i, q1, q2⟩ => ⟨i, q1, by rw [e i q1]; exact q2⟩⟩
  have ple : px ≤ py := by have := (pfR_ok r.1 n or.a hn).le; rw [hp] at this; exact this
  refine ⟨?_, ?_, ?_, ?_, ?_, ?_⟩
  · rw [a0, has_one]; exact MM r.1
  · rw [a1, has_iff C r or.le]; exact forall_congr' fun k => imp_congr Iff.rfl (MM k)
  · rw [a2]; exact ex (fun x => x.1 ≤ r.2 ∧ r.1 ≤ x.2)
  · rw [a3]
    rw [has_iff C (px, py) ple]; exact forall_congr' fun k => imp_congr Iff.rfl (MM k)
  · rw [a4]; exact ex (fun x => x.1 ≤ py ∧ px ≤ x.2)
  · rw [a5]
    constructor
    · rintro ⟨i, j, q1, q2, q3⟩
      exact ⟨j, q2, i, q1, by rw [← e i q1, ← e' j q2]; exact q3⟩
    · rintro ⟨j, q2, i, q1, q3⟩
      exact ⟨i, j, q1, q2, by rw [e i q1, e' j q2]; exact q3⟩
theorem bool_cells {W : World} {B : Nat} {b : Nat → Bool} (h : W.heap[B]? = some (.cells #[.bool (b 0), .bool (b 1), .bool (b 2), .bool (b 3), .bool (b 4), .bool (b 5)] 4 (0, 0))) (i : Nat) (hi : i < 6) : W.cell? ⟨B, i, none⟩ = some (.bool (b i)) := by
  have hz := rangeAt_of _ _ _ 4 h 0 [.bool (b 0), .bool (b 1), .bool (b 2), .bool (b 3), .bool (b 4), .bool (b 5)] (fun j hj => by rw [Nat.zero_add, ← Array.getElem?_toList])
  have := hz i (.bool (b i)) (by match i, hi with | 0, _ => rfl | 1, _ => rfl | 2, _ => rfl | 3, _ => rfl | 4, _ => rfl | 5, _ => rfl)
  rwa [Nat.zero_add] at this
set_option maxRecDepth 100000 in
set_option maxHeartbeats 4000000 in
/-- FnAsksWhole returns true. -/
theorem c6 (v1 : Value) (n1 : Nat) (f1 : Nat → Nat) (hn1 : n1 ≤ 140737488355328) (f2 : Nat → Int) (hf2 : ∀ i, i < 8 → 0 ≤ f2 i ∧ f2 i < 256) (nb : Nat) (hnb : nb < 256) (w : World) (H1 : Rd layB w v1 n1 f1) (b1 : ∀ i, i < n1 → f1 i < 256) :
    Calls Tryz.prog 6 #[v1, .agg #[.int .u8 (f2 0), .int .u8 (f2 1), .int .u8 (f2 2), .int .u8 (f2 3), .int .u8 (f2 4), .int .u8 (f2 5), .int .u8 (f2 6), .int .u8 (f2 7)], .int .u8 ((nb : Nat) : Int)] w (TrueP w) := by
  obtain ⟨p1, c1, rfl, q1, q2⟩ := H1
  have R1 : Hid (Rd layB w (.slice p1 n1 c1) n1 f1) := ⟨p1, c1, rfl, q1, q2⟩
  have HB1 : Hid _ := b1
  obtain ⟨r, or, K22⟩ := x22 (f2 0) (f2 1) (f2 2) (f2 3) (f2 4) (f2 5) (f2 6) (f2 7) (hf2 0 (by omega)).1 (hf2 0 (by omega)).2 (hf2 1 (by omega)).1 (hf2 1 (by omega)).2 (hf2 2 (by omega)).1 (hf2 2 (by omega)).2 (hf2 3 (by omega)).1 (hf2 3 (by omega)).2 (hf2 4 (by omega)).1 (hf2 4 (by omega)).2 (hf2 5 (by omega)).1 (hf2 5 (by omega)).2 (hf2 6 (by omega)).1 (hf2 6 (by omega)).2 (hf2 7 (by omega)).1 (hf2 7 (by omega)).2
  have HOR : Hid _ := or
  have H22 : Hid _ := K22
  clear q2 b1 or K22 hf2
  by_cases g1 : 2147483647 < n1
  · have z1 : decide (2147483647 < (n1 : Int)) = true := decide_eq_true (by omega)
    go_enter Tryz.func6, Tryz.ntmps6

    go_wp2_with fail
    go_ret
    exact ⟨rfl, by (repeat (with_reducible first | exact Chg.refl _ _ | refine Chg.plus ?_ _ _ | refine Chg.alloc ?_ _ | refine Chg.drew ?_))⟩
  · have z1 : decide (2147483647 < (n1 : Int)) = false := decide_eq_false (by omega)
    go_enter Tryz.func6, Tryz.ntmps6

    go_upto_region 3 with fail
    go_cut [7, 8] from 23 to 26 (fun t7 t8 wx => ∃ (ps : Option Addr) (ns cs : Nat) (gs : Nat → StepV) (B8 : Nat), t7 = .slice ps ns cs ∧ t8 = .pointer (some ⟨B8, 0, none⟩) ∧ Hid (Chg (fun _ => False) w wx ∧ Rd layS wx (.slice ps ns cs) ns gs ∧ ns ≤ 40 ∧ (∀ i, i < ns → okStep (gs i)) ∧ wx.rangeAt B8 0 (rqL r)))
    case first =>
      go_region_with (first | (go_at_call 8; (with_reducible refine (c8x _ n1 f1 (by omega) _ (Rd.chg0 R1.out (by (repeat (with_reducible first | exact Chg.refl _ _ | refine Chg.plus ?_ _ _ | refine Chg.alloc ?_ _ | refine Chg.drew ?_)))) HB1.out).mono ?_); rintro e w1 ⟨ps, ns, cs, gs, rfl, Z8⟩; obtain ⟨d8, o8, rfl⟩ := Z8.out.1.plus_of (fun _ _ => id)) | (go_at_call 22; (with_reducible refine (H22.out _).mono ?_); rintro e w' ⟨rfl, dd, oo, rfl⟩))
      all_goals go_wp2_with fail
      all_goals go_meet
      all_goals refine ⟨ps, ns, cs, gs, _, rfl, rfl, by (repeat (with_reducible first | exact Chg.refl _ _ | refine Chg.plus ?_ _ _ | refine Chg.alloc ?_ _ | refine Chg.drew ?_)), ?_, Z8.out.2.2.2.1, Z8.out.2.2.2.2, ?_⟩
      all_goals first
        | ((repeat (with_reducible first | exact newRqAt _ r _ (by simp) | refine rangeAt_plus ?_ _ _ | refine World.rangeAt_alloc ?_ _ | refine (World.rangeAt_drew _ _ _ _).2 ?_)); done)
        | exact Rd.chg0 Z8.out.2.1.rd (Chg.trans (b := (w.alloc (.cells #[.int .u8 (f2 0), .int .u8 (f2 1), .int .u8 (f2 2), .int .u8 (f2 3), .int .u8 (f2 4), .int .u8 (f2 5), .int .u8 (f2 6), .int .u8 (f2 7)] 55)).plus d8 o8) ⟨rfl, rfl, rfl, Nat.le_refl _, fun _ _ _ => rfl⟩ (by (repeat (with_reducible first | exact Chg.refl _ _ | refine Chg.plus ?_ _ _ | refine Chg.alloc ?_ _ | refine Chg.drew ?_))))
        | exact Rd.chg0 (OwnDV.chg Z8.out.2.1 (Chg.realloc (w.alloc (.cells #[.int .u8 (f2 0), .int .u8 (f2 1), .int .u8 (f2 2), .int .u8 (f2 3), .int .u8 (f2 4), .int .u8 (f2 5), .int .u8 (f2 6), .int .u8 (f2 7)] 55)) _ (.cells #[.bool (sK r.1), .int .u64 (hK r.1), .int .u64 (mK r.1), .bool (sK r.2), .int .u64 (hK r.2), .int .u64 (mK r.2)] 40) d8 o8) (fun q e z => by have h1 := Z8.out.2.2.1 q e; simp at h1 z; omega)).rd (by (repeat (with_reducible first | exact Chg.refl _ _ | refine Chg.plus ?_ _ _ | refine Chg.alloc ?_ _ | refine Chg.drew ?_)))
    case rest =>
      obtain ⟨ps, ns, cs, gs, B8, rfl, rfl, Z⟩ := hcut
      obtain ⟨w1, rfl⟩ : ∃ w1 : World, w1 = wc := ⟨_, rfl⟩
      have HC1 : Hid (Chg (fun _ => False) w w1) := Z.out.1
      have HS : Hid (Rd layS w1 (.slice ps ns cs) ns gs) := Z.out.2.1
      have hns : ns ≤ 40 := Z.out.2.2.1
      have HGS : Hid (∀ i, i < ns → okStep (gs i)) := Z.out.2.2.2.1
      have HR8 : Hid (w1.rangeAt B8 0 (rqL r)) := Z.out.2.2.2.2
      clear Z
      obtain ⟨cr0, cr1, cr2, cr3, cr4, cr5⟩ := rq_cells HR8.out
      simp only [Nat.zero_add] at cr0 cr1 cr2 cr3 cr4 cr5
      have hB8 : B8 < w1.heap.size := World.block_lt_of_cell? _ _ cr0
      obtain ⟨bits, hbits⟩ : ∃ bits : Nat, bits = nb % (lenK r.1 + 1) := ⟨_, rfl⟩
      have hlk : lenK r.1 ≤ 128 := by unfold lenK; split <;> omega
      have hb : bits ≤ lenK r.1 := by have := Nat.mod_lt nb (show 0 < lenK r.1 + 1 by omega); omega
      have hrem : (nb : Int) % ((lenK r.1 : Nat) + 1 : Int) = (bits : Int) := by rw [hbits]; norm_cast
      have hrem2 : Int.tmod (nb : Int) ((lenK r.1 : Nat) + 1 : Int) = (bits : Int) := by
        rw [Int.tmod_eq_emod_of_nonneg (by omega)]; exact hrem
      have hne0 : ((lenK r.1 : Nat) + 1 : Int) ≠ 0 := by omega
      have hne1 : (((lenK r.1 : Nat) + 1 : Int) == 0) = false := by rw [beq_eq_false_iff_ne]; omega
      clear hbits
      go_wp2_with (first | (go_at_call 18; (with_reducible refine (k18 r.1 _).mono ?_); rintro e w' ⟨rfl, dd, oo, rfl⟩))
      refine (c10 _ ns gs Gro (lim40 _ hns) (by omega) HGS.out _ (Rd.chg0 HS.out (by (repeat (with_reducible first | exact Chg.refl _ _ | refine Chg.plus ?_ _ _ | refine Chg.alloc ?_ _ | refine Chg.drew ?_))))).mono ?_
      rintro e w3 ⟨pl2, pk2, m2, K2, cl2, ck2, h2, hk2, rfl, Z⟩
      have HC3 : Hid (Chg (fun _ => False) w1 w3) := Chg.trans (by (repeat (with_reducible first | exact Chg.refl _ _ | refine Chg.plus ?_ _ _ | refine Chg.alloc ?_ _ | refine Chg.drew ?_))) Z.out.1.chg
      have HL2 : Hid (Rd layQ w3 (.slice pl2 m2 cl2) m2 h2) := Z.out.1.rl
      have HCL2 : Hid (CanonR m2 h2) := Z.out.1.cl
      have HML2 : Hid (∀ k, MemR m2 h2 k ↔ (runS gs ns).1 k) := Z.out.1.ml
      have HK2 : Hid (Rd layQ w3 (.slice pk2 K2 ck2) K2 hk2) := Z.out.1.rk
      have HCK : Hid (CanonR K2 hk2) := Z.out.1.ck
      have HMK : Hid (∀ k, MemR K2 hk2 k ↔ (runS gs ns).2 k) := Z.out.1.mkk
      have hm2 : m2 ≤ 15000000 := Z.out.2.1
      have hK2 : K2 ≤ 15000000 := Z.out.2.2
      clear Z cr0 cr1 cr2 cr3 cr4 cr5 hB8 hrem hrem2 hne0 hne1
      have HR83 : Hid (w3.rangeAt B8 0 (rqL r)) := rangeAt_chg HC3.out HR8.out id
      obtain ⟨px, py, hpf⟩ : ∃ px py, pfR r.1 bits = (px, py) := ⟨_, _, rfl⟩
      have HPF : Hid _ := hpf
      have HOA : Hid (okK r.1) := HOR.out.a
      have HO1 : Hid (okR (r.1, r.1)) := ⟨HOR.out.a, HOR.out.a, rfl, Nat.le_refl _⟩
      have HOP : Hid (okR (px, py)) := by have := pfR_ok r.1 bits HOR.out.a hb; rw [hpf] at this; exact this
      clear hpf
      obtain ⟨cr0, cr1, cr2, cr3, cr4, cr5⟩ := rq_cells HR83.out
      simp only [Nat.zero_add] at cr0 cr1 cr2 cr3 cr4 cr5
      have hB8 : B8 < w3.heap.size := World.block_lt_of_cell? _ _ cr0
      go_upto_region 6 with fail
      go_cut [12] from 39 to 43 (fun t12 wx => ∃ B12, t12 = .pointer (some ⟨B12, 0, none⟩) ∧ Hid (Chg (fun _ => False) w3 wx ∧ wx.rangeAt B12 0 (rqL (r.1, r.1))))
      case first =>
        go_wp2_with fail
        go_meet
        case rel => exact ⟨_, rfl, by (repeat (with_reducible first | exact Chg.refl _ _ | refine Chg.plus ?_ _ _ | refine Chg.alloc ?_ _ | refine Chg.drew ?_)), newRqAt _ (r.1, r.1) _ (by simp)⟩
      case rest =>
        obtain ⟨B12, rfl, Z⟩ := hcut
        obtain ⟨wk, rfl⟩ : ∃ wk : World, wk = wc := ⟨_, rfl⟩
        have HW1 : Hid (Chg (fun _ => False) w3 wk) := Z.out.1
        have HR12 : Hid (wk.rangeAt B12 0 (rqL (r.1, r.1))) := Z.out.2
        clear Z cr0 cr1 cr2 cr3 cr4 cr5 hB8
        obtain ⟨cr0, cr1, cr2, cr3, cr4, cr5⟩ := rq_cells (rangeAt_chg HW1.out HR83.out id)
        simp only [Nat.zero_add] at cr0 cr1 cr2 cr3 cr4 cr5
        have hB8 : B8 < wk.heap.size := World.block_lt_of_cell? _ _ cr0
        go_upto_region 7 with fail
        go_cut [13] from 44 to 48 (fun t13 wx => ∃ B13, t13 = .pointer (some ⟨B13, 0, none⟩) ∧ Hid (Chg (fun _ => False) wk wx ∧ wx.rangeAt B13 0 (rqL (px, py))))
        case first =>
          go_wp2_with (first | (go_at_call 19; (with_reducible refine (k19x r.1 bits HOA.out hb px py HPF.out _).mono ?_); rintro e w' ⟨rfl, dd, oo, rfl⟩))
          go_meet
          case rel => exact ⟨_, rfl, by (repeat (with_reducible first | exact Chg.refl _ _ | refine Chg.plus ?_ _ _ | refine Chg.alloc ?_ _ | refine Chg.drew ?_)), newRqAt _ (px, py) _ (by simp)⟩
        case rest =>
          obtain ⟨B13, rfl, Z⟩ := hcut
          obtain ⟨wm, rfl⟩ : ∃ wm : World, wm = wc := ⟨_, rfl⟩
          have HW2 : Hid (Chg (fun _ => False) w3 wm) := HW1.out.trans Z.out.1
          have HR12' : Hid (wm.rangeAt B12 0 (rqL (r.1, r.1))) := rangeAt_chg Z.out.1 HR12.out id
          have HR13 : Hid (wm.rangeAt B13 0 (rqL (px, py))) := Z.out.2
          have HR8' : Hid (wm.rangeAt B8 0 (rqL r)) := rangeAt_chg HW2.out HR83.out id
          clear Z cr0 cr1 cr2 cr3 cr4 cr5 hB8
          go_wp2_with fail
          go_loopw [14, 51] (fun t14 t51 wr => ∃ (i : Nat) (s : Bool), t51 = .int .i64 i ∧ t14 = .bool s ∧ i ≤ K2 ∧ Hid (Chg (fun _ => False) wm wr ∧ (s = true ↔ ∃ j, j < i ∧ ∃ i', i' < m2 ∧ ((h2 i').1 ≤ (hk2 j).2 ∧ (hk2 j).1 ≤ (h2 i').2))))
            (fun _ t51 _ => K2 - (intOf t51).toNat)
          case atStart => exact ⟨0, false, rfl, rfl, Nat.zero_le _, by (repeat (with_reducible first | exact Chg.refl _ _ | refine Chg.plus ?_ _ _ | refine Chg.alloc ?_ _ | refine Chg.drew ?_)), ⟨fun q => absurd q (by decide), fun ⟨j, q, _⟩ => absurd q (by omega)⟩⟩
          case round =>
            obtain ⟨i, s, rfl, rfl, hi, X⟩ := hrel
            obtain ⟨W0, rfl⟩ : ∃ x, x = wr := ⟨_, rfl⟩
            by_cases hlt : i < K2
            · obtain ⟨q, kq, eq, hmk, hrow0⟩ := HK2.out
              simp only [Value.slice.injEq, true_and] at eq
              obtain ⟨e1, e2⟩ := eq
              obtain ⟨G, o, e3, hrow⟩ := hrow0 (by omega)
              clear hrow0
              subst e2 e1 e3
              have ra : W0.rangeAt G (o + i * 6) (rqL (hk2 i)) := rangeAt_chg (HW2.out.trans X.out.1) (hrow i hlt) id
              obtain ⟨x, hx⟩ : ∃ x, hk2 i = x := ⟨_, rfl⟩
              have HX : Hid _ := hx
              have OX : Hid (okR x) := by have := HCK.out.ok i hlt; rw [hx] at this; exact this
              rw [hx] at ra
              obtain ⟨ca0, ca1, ca2, ca3, ca4, ca5⟩ := rq_cells ra
              have hG : G < W0.heap.size := World.block_lt_of_cell? _ _ ca0
              clear hrow ra hx
              cases s with
              | true =>
                go_wp2_with fail
                go_roundw
                case rel =>
                  refine ⟨i + 1, true, by go_num, rfl, by omega, X.out.1.trans (by (repeat (with_reducible first | exact Chg.refl _ _ | refine Chg.plus ?_ _ _ | refine Chg.alloc ?_ _ | refine Chg.drew ?_))), fun _ => ?_, fun _ => rfl⟩
                  obtain ⟨j, q1, q2⟩ := X.out.2.1 rfl
                  exact ⟨j, by omega, q2⟩
                case measure => simp [intOf]; omega
              | false =>
                obtain ⟨y, hy⟩ := exB (∃ i', i' < m2 ∧ ((h2 i').1 ≤ x.2 ∧ x.1 ≤ (h2 i').2))
                have HY : Hid _ := hy
                clear hy
                go_wp2_with (first | (go_at_call 23; (with_reducible refine ((c23 _ m2 h2 (by omega) x OX.out _ (Rd.chg0 HL2.out (HW2.out.trans (X.out.1.trans (by (repeat (with_reducible first | exact Chg.refl _ _ | refine Chg.plus ?_ _ _ | refine Chg.alloc ?_ _ | refine Chg.drew ?_)))))) (fun j hj => HCL2.out.ok j hj)).mono (fun _ _ z => z.told y HY.out)).mono ?_); rintro e w' ⟨rfl, dd, oo, rfl⟩))
                go_roundw
                case rel =>
                  refine ⟨i + 1, y, by go_num, rfl, by omega, X.out.1.trans (by (repeat (with_reducible first | exact Chg.refl _ _ | refine Chg.plus ?_ _ _ | refine Chg.alloc ?_ _ | refine Chg.drew ?_))), ?_⟩
                  rw [HY.out]
                  constructor
                  · exact fun q => ⟨i, by omega, by rw [HX.out]; exact q⟩
                  · rintro ⟨j, q1, q2⟩
                    by_cases q3 : j = i
                    · subst q3; rw [HX.out] at q2; exact q2
                    · exact absurd (X.out.2.2 ⟨j, by omega, q2⟩) (by decide)
                case measure => simp [intOf]; omega
            · obtain rfl : i = K2 := by omega
              have HWX : Hid (Chg (fun _ => False) wm W0) := X.out.1
              have HSX : Hid (s = true ↔ ∃ j, j < i ∧ ∃ i', i' < m2 ∧ ((h2 i').1 ≤ (hk2 j).2 ∧ (hk2 j).1 ≤ (h2 i').2)) := X.out.2
              obtain ⟨cr0, cr1, cr2, cr3, cr4, cr5⟩ := rq_cells (rangeAt_chg HWX.out HR8'.out id)
              simp only [Nat.zero_add] at cr0 cr1 cr2 cr3 cr4 cr5
              have hB8 : B8 < W0.heap.size := World.block_lt_of_cell? _ _ cr0
              clear X
              go_wp2_with fail
              refine (c24 _ ns gs Gro (lim40 _ hns) (by omega) HGS.out r HOR.out bits hb _ (Rd.chg0 HS.out (HC3.out.trans (HW2.out.trans (HWX.out.trans (by (repeat (with_reducible first | exact Chg.refl _ _ | refine Chg.plus ?_ _ _ | refine Chg.alloc ?_ _ | refine Chg.drew ?_)))))))).mono ?_
              rintro e w5 ⟨B, b, rfl, Z⟩
              obtain ⟨z1, z2, mA, hA, mB, hBB, z3, z4, z5, z6, z7⟩ := Z.out
              obtain ⟨a0, a1, a2, a3, a4, a5⟩ := ask_told HOR.out hb z3 z4 z5 z6 HCL2.out HML2.out HCK.out HMK.out z7 px py HPF.out
              have HC5 : Hid (Chg (fun _ => False) W0 w5) := Chg.trans (by (repeat (with_reducible first | exact Chg.refl _ _ | refine Chg.plus ?_ _ _ | refine Chg.alloc ?_ _ | refine Chg.drew ?_))) z1
              have HBB : Hid (w5.heap[B]? = some (.cells #[.bool (b 0), .bool (b 1), .bool (b 2), .bool (b 3), .bool (b 4), .bool (b 5)] 4 (0, 0))) := z2
              have A0 : Hid _ := a0
              have A1 : Hid _ := a1
              have A2 : Hid _ := a2
              have A3 : Hid _ := a3
              have A4 : Hid _ := a4
              have hs5 : s = b 5 := Bool.eq_iff_iff.2 (HSX.out.trans a5.symm)
              subst hs5
              clear Z z1 z2 z3 z4 z5 z6 z7 a0 a1 a2 a3 a4 a5 cr0 cr1 cr2 cr3 cr4 cr5 hB8
              have HC35 : Hid (Chg (fun _ => False) w3 w5) := HW2.out.trans (HWX.out.trans HC5.out)
              obtain ⟨cr0, cr1, cr2, cr3, cr4, cr5⟩ := rq_cells (rangeAt_chg (HWX.out.trans HC5.out) HR8'.out id)
              obtain ⟨cs0, cs1, cs2, cs3, cs4, cs5⟩ := rq_cells (rangeAt_chg (HWX.out.trans HC5.out) HR12'.out id)
              obtain ⟨ct0, ct1, ct2, ct3, ct4, ct5⟩ := rq_cells (rangeAt_chg (HWX.out.trans HC5.out) HR13.out id)
              simp only [Nat.zero_add] at cr0 cr1 cr2 cr3 cr4 cr5 cs0 cs1 cs2 cs3 cs4 cs5 ct0 ct1 ct2 ct3 ct4 ct5
              have hB8 : B8 < w5.heap.size := World.block_lt_of_cell? _ _ cr0
              have hB12 : B12 < w5.heap.size := World.block_lt_of_cell? _ _ cs0
              have hB13 : B13 < w5.heap.size := World.block_lt_of_cell? _ _ ct0
              go_upto_region 15 with fail
              refine wp_region_plus_tail 16 (by kernel_rfl) (by kernel_rfl) ?_
              simp only [List.take_succ_cons, List.take_zero, List.drop_succ_cons, List.drop_zero]
              repeat (go_big_quiet_step (first
                | (go_at_call 20; (with_reducible exact Calls.plus_of (c20p _ m2 h2 (by omega) r.1 r.1 HO1.out _ (Rd.chg0 HL2.out (HC35.out.trans (by (repeat (with_reducible first | exact Chg.refl _ _ | refine Chg.plus ?_ _ _ | refine Chg.alloc ?_ _ | refine Chg.drew ?_))))) (fun j hj => HCL2.out.ok j hj) (b 0) A0.out)))
                | (go_at_call 20; (with_reducible exact Calls.plus_of (c20p _ m2 h2 (by omega) r.1 r.2 HOR.out _ (Rd.chg0 HL2.out (HC35.out.trans (by (repeat (with_reducible first | exact Chg.refl _ _ | refine Chg.plus ?_ _ _ | refine Chg.alloc ?_ _ | refine Chg.drew ?_))))) (fun j hj => HCL2.out.ok j hj) (b 1) A1.out)))
                | (go_at_call 20; (with_reducible exact Calls.plus_of (c20p _ m2 h2 (by omega) px py HOP.out _ (Rd.chg0 HL2.out (HC35.out.trans (by (repeat (with_reducible first | exact Chg.refl _ _ | refine Chg.plus ?_ _ _ | refine Chg.alloc ?_ _ | refine Chg.drew ?_))))) (fun j hj => HCL2.out.ok j hj) (b 3) A3.out)))
                | (go_at_call 23; (with_reducible exact Calls.plus_of (c23p _ m2 h2 (by omega) r.1 r.2 HOR.out _ (Rd.chg0 HL2.out (HC35.out.trans (by (repeat (with_reducible first | exact Chg.refl _ _ | refine Chg.plus ?_ _ _ | refine Chg.alloc ?_ _ | refine Chg.drew ?_))))) (fun j hj => HCL2.out.ok j hj) (b 2) A2.out)))
                | (go_at_call 23; (with_reducible exact Calls.plus_of (c23p _ m2 h2 (by omega) px py HOP.out _ (Rd.chg0 HL2.out (HC35.out.trans (by (repeat (with_reducible first | exact Chg.refl _ _ | refine Chg.plus ?_ _ _ | refine Chg.alloc ?_ _ | refine Chg.drew ?_))))) (fun j hj => HCL2.out.ok j hj) (b 4) A4.out)))))
              refine wpQuiet_nil ?_
              intro _ hq
              obtain ⟨⟨dq, oq⟩, rfl⟩ := hq
              clear cr0 cr1 cr2 cr3 cr4 cr5 cs0 cs1 cs2 cs3 cs4 cs5 ct0 ct1 ct2 ct3 ct4 ct5 hB8 hB12 hB13
              go_wp2_with fail
              go_loopw [90] (fun t90 wr => ∃ i : Nat, t90 = .int .i64 i ∧ i ≤ 6 ∧ Hid (Chg (fun _ => False) w5 wr ∧ wr.heap[w5.heap.size + oq.size]? = some (.cells #[.bool (b 0), .bool (b 1), .bool (b 2), .bool (b 3), .bool (b 4), .bool (b 5)] 4 (0, 0))))
                (fun t90 _ => 6 - (intOf t90).toNat)
              case atStart => exact ⟨0, rfl, Nat.zero_le _, by (repeat (with_reducible first | exact Chg.refl _ _ | refine Chg.plus ?_ _ _ | refine Chg.alloc ?_ _ | refine Chg.drew ?_)), blk_new (by simp)⟩
              case round =>
                obtain ⟨j, rfl, hj, Y⟩ := hrel
                obtain ⟨W1, rfl⟩ : ∃ x, x = wr := ⟨_, rfl⟩
                have HCF : Hid (Chg (fun _ => False) w W1) := HC1.out.trans (HC3.out.trans (HC35.out.trans Y.out.1))
                by_cases hlt2 : j < 6
                · have cg : W1.cell? ⟨B, j, none⟩ = some (.bool (b j)) := bool_cells (heap_chg Y.out.1 HBB.out id) j hlt2
                  have cw : W1.cell? ⟨w5.heap.size + oq.size, j, none⟩ = some (.bool (b j)) := bool_cells Y.out.2 j hlt2
                  have hBg : B < W1.heap.size := World.block_lt_of_cell? _ _ cg
                  have hBw : w5.heap.size + oq.size < W1.heap.size := World.block_lt_of_cell? _ _ cw
                  have zj0 : (0 : Int) ≤ (j : Int) := by omega
                  have zj1 : (j : Int) < 6 := by omega
                  have zbb : (b j != b j) = false := by simp
                  go_wp2_with fail
                  refine wp_region_plus (by kernel_rfl) (by kernel_rfl) ?_
                  repeat (go_big_quiet_step (fail))
                  refine wpQuiet_nil ?_
                  intro _ hq
                  obtain ⟨⟨dq2, oq2⟩, rfl⟩ := hq
                  go_wp2_with fail
                  go_roundw
                  case rel => exact ⟨j + 1, by go_num, by omega, Y.out.1.trans (by (repeat (with_reducible first | exact Chg.refl _ _ | refine Chg.plus ?_ _ _ | refine Chg.alloc ?_ _ | refine Chg.drew ?_))), heap_chg (F := fun _ => False) (by (repeat (with_reducible first | exact Chg.refl _ _ | refine Chg.plus ?_ _ _ | refine Chg.alloc ?_ _ | refine Chg.drew ?_))) Y.out.2 id⟩
                  case measure => simp [intOf]; omega
                · obtain rfl : j = 6 := by omega
                  go_wp2_with fail
                  refine (c14 _).mono ?_
                  rintro e w9 ⟨rfl, Z⟩
                  have HC9 : Hid (Chg (fun _ => False) W1 w9) := Chg.trans (by (repeat (with_reducible first | exact Chg.refl _ _ | refine Chg.plus ?_ _ _ | refine Chg.alloc ?_ _ | refine Chg.drew ?_))) Z
                  clear Z
                  go_wp2_with fail
                  go_ret
                  exact ⟨rfl, HCF.out.trans HC9.out⟩
end Go.Proofs.YtmoabfpdlbngeaaGreatDoor
end
