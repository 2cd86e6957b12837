/-
  Part of the proofs on the laws of pub-addresssets: joined texts (T8).
-/
import Derived.Test.YtmoabfpdlbngeaaGreatDoorVT6
section
namespace Go.Proofs.YtmoabfpdlbngeaaGreatDoor
open Go.RowKit
set_option maxHeartbeats 400000
set_option linter.unusedVariables false
set_option linter.unusedSimpArgs false
/-- A list that is canonical has all of a range just if one of its ranges has. -/
theorem has_iff {m : Nat} {h : Nat → Nat × Nat} (C : CanonR m h) (r : Nat × Nat) (o : r.1 ≤ r.2) : (∃ i, i < m ∧ ((h i).1 ≤ r.1 ∧ r.2 ≤ (h i).2)) ↔ ∀ k, r.1 ≤ k ∧ k ≤ r.2 → MemR m h k := by
  constructor
  · rintro ⟨i, hi, q1, q2⟩ k ⟨k1, k2⟩
    exact ⟨i, hi, by omega, by omega⟩
  · intro H
    obtain ⟨i, hi, q1, q2⟩ := H r.1 ⟨Nat.le_refl _, o⟩
    refine ⟨i, hi, q1, ?_⟩
    rcases Nat.lt_or_ge (h i).2 r.2 with z | z
    · exfalso
      obtain ⟨j, hj, q3, q4⟩ := H ((h i).2 + 1) ⟨by omega, by omega⟩
      rcases Nat.lt_trichotomy j i with e | e | e
      · have := canon_mono C j i e hi
        omega
      · subst e; omega
      · have := canon_mono C i j e hj
        omega
    · exact z
theorem has_one {m : Nat} {h : Nat → Nat × Nat} (k : Nat) : (∀ k', k ≤ k' ∧ k' ≤ k → MemR m h k') ↔ MemR m h k :=
  ⟨fun H => H k ⟨Nat.le_refl _, Nat.le_refl _⟩, fun H k' ⟨q1, q2⟩ => by rw [show k' = k by omega]; exact H⟩
theorem exB (Q : Prop) : ∃ b : Bool, b = true ↔ Q := by
  rcases Classical.em Q with q | q
  · exact ⟨true, fun _ => q, fun _ => rfl⟩
  · exact ⟨false, fun z => absurd z (by decide), fun z => absurd z q⟩
set_option maxHeartbeats 2000000 in
/-- spec.Meets. -/
theorem c23 (v0 : Value) (m : Nat) (h : Nat → Nat × Nat) (hm : m ≤ 40000000) (r : Nat × Nat) (o : okR r) (w : World) (H : Rd layQ w v0 m h) (oh : ∀ i, i < m → okR (h i)) : Calls Tryz.prog 23 #[v0, .agg #[.bool (sK r.1), .int .u64 (hK r.1), .int .u64 (mK r.1), .bool (sK r.2), .int .u64 (hK r.2), .int .u64 (mK r.2)]] w (BoolP w (∃ i, i < m ∧ ((h i).1 ≤ r.2 ∧ r.1 ≤ (h i).2))) := by
  obtain ⟨p, c, rfl, hmc, hr⟩ := H
  have HK : Hid _ := hr
  have HO : Hid _ := oh
  have HR : Hid _ := o
  clear hr oh o
  go_enter Tryz.func23, Tryz.ntmps23

  go_wp2_with fail
  go_loopw [9] (fun t9 wr => ∃ i : Nat, t9 = .int .i64 i ∧ i ≤ m ∧ Hid (Chg (fun _ => False) w wr ∧ wr.rangeAt w.heap.size 0 (rqL r) ∧ ∀ j, j < i → ¬ ((h j).1 ≤ r.2 ∧ r.1 ≤ (h j).2)))
    (fun t9 _ => m - (intOf t9).toNat)
  case atStart => exact ⟨0, rfl, Nat.zero_le _, by (repeat (with_reducible first | exact Chg.refl _ _ | refine Chg.plus ?_ _ _ | refine Chg.alloc ?_ _ | refine Chg.drew ?_)), newRq w r, fun j q => by omega⟩
  case round =>
    obtain ⟨i, rfl, hi, X⟩ := hrel
    obtain ⟨W0, rfl⟩ : ∃ x, x = wr := ⟨_, rfl⟩
    by_cases hlt : i < m
    · obtain ⟨G, o, rfl, hrow⟩ := HK.out (by omega)
      have ra : W0.rangeAt G (o + i * 6) (rqL (h i)) := rangeAt_chg X.out.1 (hrow i hlt) id
      obtain ⟨ca0, ca1, ca2, ca3, ca4, ca5⟩ := rq_cells ra
      have hG : G < W0.heap.size := World.block_lt_of_cell? _ _ ca0
      have cr0 : W0.cell? ⟨w.heap.size, 0, none⟩ = some (.bool (sK r.1)) := (rq_cells X.out.2.1).1
      have cr1 : W0.cell? ⟨w.heap.size, 1, none⟩ = some (.int .u64 (hK r.1)) := (rq_cells X.out.2.1).2.1
      have cr2 : W0.cell? ⟨w.heap.size, 2, none⟩ = some (.int .u64 (mK r.1)) := (rq_cells X.out.2.1).2.2.1
      have cr3 : W0.cell? ⟨w.heap.size, 3, none⟩ = some (.bool (sK r.2)) := (rq_cells X.out.2.1).2.2.2.1
      have cr4 : W0.cell? ⟨w.heap.size, 4, none⟩ = some (.int .u64 (hK r.2)) := (rq_cells X.out.2.1).2.2.2.2.1
      have cr5 : W0.cell? ⟨w.heap.size, 5, none⟩ = some (.int .u64 (mK r.2)) := (rq_cells X.out.2.1).2.2.2.2.2
      have hR : w.heap.size < W0.heap.size := World.block_lt_of_cell? _ _ cr0
      have ok : okR (h i) := HO.out i hlt
      clear ra hrow
      by_cases hq : ((h i).1 ≤ r.2 ∧ r.1 ≤ (h i).2)
      · go_wp2_with (first | (go_at_call 47; (with_reducible refine (k47 (h i) r ok HR.out false (decide_eq_false (by omega)) _).mono ?_); rintro e w' ⟨rfl, dd, oo, rfl⟩))
        go_ret
        exact .yes (X.out.1.trans (by (repeat (with_reducible first | exact Chg.refl _ _ | refine Chg.plus ?_ _ _ | refine Chg.alloc ?_ _ | refine Chg.drew ?_)))) ⟨i, hlt, hq⟩
      · go_wp2_with (first | (go_at_call 47; (with_reducible refine (k47 (h i) r ok HR.out true (decide_eq_true (by omega)) _).mono ?_); rintro e w' ⟨rfl, dd, oo, rfl⟩))
        go_roundw
        case rel => exact ⟨i + 1, by go_num, by omega, X.out.1.trans (by (repeat (with_reducible first | exact Chg.refl _ _ | refine Chg.plus ?_ _ _ | refine Chg.alloc ?_ _ | refine Chg.drew ?_))), rangeAt_chg (F := fun _ => False) (by (repeat (with_reducible first | exact Chg.refl _ _ | refine Chg.plus ?_ _ _ | refine Chg.alloc ?_ _ | refine Chg.drew ?_))) X.out.2.1 id, fun j hj => by
          by_cases e : j = i
          · subst e; exact hq
          · exact X.out.2.2 j (by omega)⟩
        case measure => simp [intOf]; omega
    · obtain rfl : i = m := by omega
      go_wp2_with fail
      go_ret
      exact .no X.out.1 (fun ⟨j, q1, q2⟩ => X.out.2.2 j q1 q2)
/-- Six answers. -/
def AskQ (m : Nat) (h : Nat → Nat × Nat) (m' : Nat) (h' : Nat → Nat × Nat) (r : Nat × Nat) (n : Nat) (b : Nat → Bool) : Prop :=
  (b 0 = true ↔ MemR m h r.1) ∧ (b 1 = true ↔ ∃ i, i < m ∧ ((h i).1 ≤ r.1 ∧ r.2 ≤ (h i).2)) ∧ (b 2 = true ↔ ∃ i, i < m ∧ ((h i).1 ≤ r.2 ∧ r.1 ≤ (h i).2)) ∧ (b 3 = true ↔ ∃ i, i < m ∧ ((h i).1 ≤ (pfR r.1 n).1 ∧ (pfR r.1 n).2 ≤ (h i).2)) ∧ (b 4 = true ↔ ∃ i, i < m ∧ ((h i).1 ≤ (pfR r.1 n).2 ∧ (pfR r.1 n).1 ≤ (h i).2)) ∧ (b 5 = true ↔ ∃ i j, i < m ∧ j < m' ∧ ((h i).1 ≤ (h' j).2 ∧ (h' j).1 ≤ (h i).2))
def AskP (w : World) (S T : Nat → Prop) (r : Nat × Nat) (n : Nat) (e : Ending) (w' : World) : Prop :=
  ∃ (B : Nat) (b : Nat → Bool), e = .returned (.slice (some ⟨B, 0, none⟩) 6 6) ∧ Hid (Chg (fun _ => False) w w' ∧ w'.heap[B]? = some (.cells #[.bool (b 0), .bool (b 1), .bool (b 2), .bool (b 3), .bool (b 4), .bool (b 5)] 4 (0, 0)) ∧
    ∃ m h m' h', CanonR m h ∧ (∀ k, MemR m h k ↔ S k) ∧ CanonR m' h' ∧ (∀ k, MemR m' h' k ↔ T k) ∧ AskQ m h m' h' r n b)
theorem newAd (W : World) (B : Nat) (k : Nat) (hB : B = W.heap.size) : (W.alloc (.cells #[.int .u64 (hK k), .int .u64 (lK k), .bool true, .bool (sK k), .string ⟨#[]⟩] 78)).rangeAt B 0 (adL k) := by
  subst hB
  exact rangeAt_of _ _ _ 78 (heap_alloc_new W _) 0 _ (fun j hj => by rw [Nat.zero_add, ← Array.getElem?_toList]; rfl)
set_option maxRecDepth 100000 in
set_option maxHeartbeats 4000000 in
theorem c24 (v0 : Value) (n : Nat) (g : Nat → StepV) (L : Nat → Nat → Nat → Prop) (hL : LimS n g L) (hn : n ≤ 15000000) (hg : ∀ i, i < n → okStep (g i)) (r : Nat × Nat) (or : okR r) (bits : Nat) (hb : bits ≤ lenK r.1) (w : World) (H : Rd layS w v0 n g) :
    Calls Tryz.prog 24 #[v0, .agg #[.bool (sK r.1), .int .u64 (hK r.1), .int .u64 (mK r.1), .bool (sK r.2), .int .u64 (hK r.2), .int .u64 (mK r.2)], .int .i64 ((bits : Nat) : Int)] w (AskP w (runS g n).1 (runS g n).2 r bits) := by
  obtain ⟨p, c, rfl, q1, q2⟩ := H
  have R1 : Hid (Rd layS w (.slice p n c) n g) := ⟨p, c, rfl, q1, q2⟩
  have HL : Hid _ := hL
  have HG : Hid _ := hg
  have oa : okK r.1 := or.a
  have ob : okK r.2 := or.b
  have HOR : Hid _ := or
  have HBX : Hid _ := hb
  clear q2 hL hg or
  go_enter Tryz.func24, Tryz.ntmps24

  go_wp2_with fail
  refine (c29 _ n g L HL.out (by omega) HG.out _ (Rd.chg0 R1.out (by (repeat (with_reducible first | exact Chg.refl _ _ | refine Chg.plus ?_ _ _ | refine Chg.alloc ?_ _ | refine Chg.drew ?_))))).mono ?_
  rintro e w1 ⟨P, P', rfl, Z⟩
  obtain ⟨u, m, h, u', m', h', z1, z2, z3, z4, z5, z6, z7, _⟩ := Z.out
  have HC1 : Hid (Chg (fun _ => False) w w1) := Chg.trans (by (repeat (with_reducible first | exact Chg.refl _ _ | refine Chg.plus ?_ _ _ | refine Chg.alloc ?_ _ | refine Chg.drew ?_))) z1
  have HS1 : Hid (SetAt w1 P u m h) := z2
  have HM : Hid (∀ k, MemR m h k ↔ (runS g n).1 k) := z3
  have HS2 : Hid (SetAt w1 P' u' m' h') := z4
  have HM2 : Hid (∀ k, MemR m' h' k ↔ (runS g n).2 k) := z5
  have HR1 := rangeAt_chg z1 (newRq w r) id
  have HRW1 : Hid _ := HR1
  have cr0 : w1.cell? ⟨w.heap.size, 0, none⟩ = some (.bool (sK r.1)) := (rq_cells HR1).1
  have cr1 : w1.cell? ⟨w.heap.size, 1, none⟩ = some (.int .u64 (hK r.1)) := (rq_cells HR1).2.1
  have cr2 : w1.cell? ⟨w.heap.size, 2, none⟩ = some (.int .u64 (mK r.1)) := (rq_cells HR1).2.2.1
  have cr3 : w1.cell? ⟨w.heap.size, 3, none⟩ = some (.bool (sK r.2)) := (rq_cells HR1).2.2.2.1
  have cr4 : w1.cell? ⟨w.heap.size, 4, none⟩ = some (.int .u64 (hK r.2)) := (rq_cells HR1).2.2.2.2.1
  have cr5 : w1.cell? ⟨w.heap.size, 5, none⟩ = some (.int .u64 (mK r.2)) := (rq_cells HR1).2.2.2.2.2
  have hRl : w.heap.size < w1.heap.size := World.block_lt_of_cell? _ _ cr0
  clear Z z1 z2 z3 z4 z5 R1 HL HG HR1
  go_upto_region 2 with fail
  go_cut [9] from 17 to 19 (fun t9 wx => ∃ B9, t9 = .pointer (some ⟨B9, 0, none⟩) ∧ Hid (Chg (fun _ => False) w1 wx ∧ wx.rangeAt B9 0 (adL r.1)))
  case first =>
    go_wp2_with (first | (go_at_call 52; (with_reducible refine (k52 _ ?_ _).mono ?_); (focus assumption); rintro e w' ⟨rfl, dd, oo, rfl⟩))
    go_meet
    case rel => exact ⟨_, rfl, by (repeat (with_reducible first | exact Chg.refl _ _ | refine Chg.plus ?_ _ _ | refine Chg.alloc ?_ _ | refine Chg.drew ?_)), newAd _ _ r.1 (by simp)⟩
  case rest =>
    obtain ⟨B9, rfl, Z⟩ := hcut
    have HW1 : Hid (Chg (fun _ => False) w1 wc) := Z.out.1
    have R9 : Hid (wc.rangeAt B9 0 (adL r.1)) := Z.out.2
    clear cr0 cr1 cr2 cr3 cr4 cr5 hRl Z
    obtain ⟨wk, rfl⟩ : ∃ wk : World, wk = wc := ⟨_, rfl⟩
    have HRW : Hid (wk.rangeAt w.heap.size 0 (rqL r)) := rangeAt_chg HW1.out HRW1.out id
    have cr0 : wk.cell? ⟨w.heap.size, 0, none⟩ = some (.bool (sK r.1)) := (rq_cells HRW.out).1
    have cr1 : wk.cell? ⟨w.heap.size, 1, none⟩ = some (.int .u64 (hK r.1)) := (rq_cells HRW.out).2.1
    have cr2 : wk.cell? ⟨w.heap.size, 2, none⟩ = some (.int .u64 (mK r.1)) := (rq_cells HRW.out).2.2.1
    have cr3 : wk.cell? ⟨w.heap.size, 3, none⟩ = some (.bool (sK r.2)) := (rq_cells HRW.out).2.2.2.1
    have cr4 : wk.cell? ⟨w.heap.size, 4, none⟩ = some (.int .u64 (hK r.2)) := (rq_cells HRW.out).2.2.2.2.1
    have cr5 : wk.cell? ⟨w.heap.size, 5, none⟩ = some (.int .u64 (mK r.2)) := (rq_cells HRW.out).2.2.2.2.2
    have hRl : w.heap.size < wk.heap.size := World.block_lt_of_cell? _ _ cr0
    obtain ⟨cd0, cd1, cd2, cd3, cd4⟩ := ad_cells R9.out
    have hB9 : B9 < wk.heap.size := World.block_lt_of_cell? _ _ cd0
    go_upto_region 3 with fail
    go_cut [10] from 20 to 24 (fun t10 wx => ∃ B10, t10 = .pointer (some ⟨B10, 0, none⟩) ∧ Hid (Chg (fun _ => False) wk wx ∧ wx.rangeAt B10 0 (rcL r)))
    case first =>
      go_region_held3 (fun w' => KS (wk) w') (repeat (first | exact KS.refl _ | assumption | apply KS.drew | apply KS.plus | apply KS.alloc | (refine KS.setCell ?_ _ _ _ (by first | (simp; done) | (simp; omega))))) (first | (go_at_call 52; (with_reducible refine (k52 _ ?_ _).mono ?_); (focus assumption); rintro e w' ⟨rfl, dd, oo, rfl⟩) | (go_at_call 53; (with_reducible refine (k53r r _).mono ?_); rintro e w' ⟨rfl, dd, oo, rfl⟩))
      all_goals (
        go_wp2_with fail
        go_meet
        case rel =>
          refine ⟨_, rfl, by (repeat (with_reducible first | refine Chg.plus ?_ _ _ | refine Chg.alloc ?_ _ | refine Chg.drew ?_ | exact Chg.refl _ _)), ?_⟩
          (repeat (with_reducible first | exact rangeAt_new _ _ r (by simp) | refine rangeAt_plus ?_ _ _ | refine World.rangeAt_alloc ?_ _ | refine (World.rangeAt_drew _ _ _ _).2 ?_)))
    case rest =>
      obtain ⟨B10, rfl, Z⟩ := hcut
      have HW2 : Hid (Chg (fun _ => False) wk wc) := Z.out.1
      have R10 : Hid (wc.rangeAt B10 0 (rcL r)) := Z.out.2
      clear cr0 cr1 cr2 cr3 cr4 cr5 hRl Z cd0 cd1 cd2 cd3 cd4 hB9
      obtain ⟨wm, rfl⟩ : ∃ wm : World, wm = wc := ⟨_, rfl⟩
      have R9' : Hid (wm.rangeAt B9 0 (adL r.1)) := rangeAt_chg HW2.out R9.out id
      obtain ⟨cd0, cd1, cd2, cd3, cd4⟩ := ad_cells R9'.out
      have hB9 : B9 < wm.heap.size := World.block_lt_of_cell? _ _ cd0
      go_upto_region 4 with fail
      go_cut [11] from 25 to 27 (fun t11 wx => ∃ B11, t11 = .pointer (some ⟨B11, 0, none⟩) ∧ Hid (Chg (fun _ => False) wm wx ∧ wx.rangeAt B11 0 (pfL r.1 bits)))
      case first =>
        go_wp2_with (first | (go_at_call 54; (with_reducible refine (k54 r.1 bits oa hb _).mono ?_); rintro e w' ⟨rfl, dd, oo, rfl⟩))
        go_meet
        case rel => exact ⟨_, rfl, by (repeat (with_reducible first | exact Chg.refl _ _ | refine Chg.plus ?_ _ _ | refine Chg.alloc ?_ _ | refine Chg.drew ?_)), newPf _ _ r.1 bits (by simp)⟩
      case rest =>
        obtain ⟨B11, rfl, Z⟩ := hcut
        have HW3 : Hid (Chg (fun _ => False) w1 wc) := HW1.out.trans (HW2.out.trans Z.out.1)
        clear cd0 cd1 cd2 cd3 cd4 hB9
        obtain ⟨cd0, cd1, cd2, cd3, cd4⟩ := ad_cells (rangeAt_chg (HW2.out.trans Z.out.1) R9.out id)
        obtain ⟨ce0, ce1, ce2, ce3, ce4, ce5, ce6, ce7, ce8, ce9⟩ := rc_cells (rangeAt_chg Z.out.1 R10.out id)
        obtain ⟨cf0, cf1, cf2, cf3, cf4, cf5⟩ := pf_cells Z.out.2
        simp only [Nat.zero_add] at cd0 cd1 cd2 cd3 cd4 ce0 ce1 ce2 ce3 ce4 ce5 ce6 ce7 ce8 ce9 cf0 cf1 cf2 cf3 cf4 cf5
        have hB9 : B9 < wc.heap.size := World.block_lt_of_cell? _ _ cd0
        have hB10 : B10 < wc.heap.size := World.block_lt_of_cell? _ _ ce0
        have hB11 : B11 < wc.heap.size := World.block_lt_of_cell? _ _ cf0
        have HSA : Hid (SetAt wc P u m h) := HS1.out.chg HW3.out id (fun _ _ => id)
        have HSB : Hid (SetAt wc P' u' m' h') := HS2.out.chg HW3.out id (fun _ _ => id)
        obtain ⟨wn, rfl⟩ : ∃ wn : World, wn = wc := ⟨_, rfl⟩
        obtain ⟨b0, hb0⟩ := exB (MemR m h r.1)
        obtain ⟨b1, hb1⟩ := exB (∃ i, i < m ∧ ((h i).1 ≤ r.1 ∧ r.2 ≤ (h i).2))
        obtain ⟨b2, hb2⟩ := exB (∃ i, i < m ∧ ((h i).1 ≤ r.2 ∧ r.1 ≤ (h i).2))
        obtain ⟨b3, hb3⟩ := exB (∃ i, i < m ∧ ((h i).1 ≤ (pfR r.1 bits).1 ∧ (pfR r.1 bits).2 ≤ (h i).2))
        obtain ⟨b4, hb4⟩ := exB (∃ i, i < m ∧ ((h i).1 ≤ (pfR r.1 bits).2 ∧ (pfR r.1 bits).1 ≤ (h i).2))
        obtain ⟨b5, hb5⟩ := exB (∃ i j, i < m ∧ j < m' ∧ ((h i).1 ≤ (h' j).2 ∧ (h' j).1 ≤ (h i).2))
        have HB : Hid _ := (⟨hb0, hb1, hb2, hb3, hb4, hb5⟩ : AskQ m h m' h' r bits (fun j => match j with | 0 => b0 | 1 => b1 | 2 => b2 | 3 => b3 | 4 => b4 | _ => b5))
        have H0 : Hid _ := hb0
        have H1 : Hid _ := hb1
        have H2 : Hid _ := hb2
        have H3 : Hid _ := hb3
        have H4 : Hid _ := hb4
        have H5 : Hid _ := hb5
        clear hb0 hb1 hb2 hb3 hb4 hb5 Z
        go_upto_region 5 with fail
        refine wp_region_plus_tail 18 (by kernel_rfl) (by kernel_rfl) ?_
        simp only [List.take_succ_cons, List.take_zero, List.drop_succ_cons, List.drop_zero]
        repeat (go_big_quiet_step (first
          | (go_at_call 55; (with_reducible exact Calls.plus_of ((c55 P u m h (by omega) r.1 oa _ (SetAt.chg HSA.out (F := fun _ => False) (by (repeat (with_reducible first | exact Chg.refl _ _ | refine Chg.plus ?_ _ _ | refine Chg.alloc ?_ _ | refine Chg.drew ?_))) id (fun _ _ => id))).mono (fun _ _ z => z.told b0 H0.out))))
          | (go_at_call 56; (with_reducible exact Calls.plus_of ((c56 P u m h (by omega) r HOR.out _ (SetAt.chg HSA.out (F := fun _ => False) (by (repeat (with_reducible first | exact Chg.refl _ _ | refine Chg.plus ?_ _ _ | refine Chg.alloc ?_ _ | refine Chg.drew ?_))) id (fun _ _ => id))).mono (fun _ _ z => z.told b1 H1.out))))
          | (go_at_call 57; (with_reducible exact Calls.plus_of ((c57 P u m h (by omega) r HOR.out _ (SetAt.chg HSA.out (F := fun _ => False) (by (repeat (with_reducible first | exact Chg.refl _ _ | refine Chg.plus ?_ _ _ | refine Chg.alloc ?_ _ | refine Chg.drew ?_))) id (fun _ _ => id))).mono (fun _ _ z => z.told b2 H2.out))))
          | (go_at_call 58; (with_reducible exact Calls.plus_of ((c58 P u m h (by omega) r.1 bits oa hb _ (SetAt.chg HSA.out (F := fun _ => False) (by (repeat (with_reducible first | exact Chg.refl _ _ | refine Chg.plus ?_ _ _ | refine Chg.alloc ?_ _ | refine Chg.drew ?_))) id (fun _ _ => id))).mono (fun _ _ z => z.told b3 H3.out))))
          | (go_at_call 59; (with_reducible exact Calls.plus_of ((c59 P u m h (by omega) r.1 bits oa hb _ (SetAt.chg HSA.out (F := fun _ => False) (by (repeat (with_reducible first | exact Chg.refl _ _ | refine Chg.plus ?_ _ _ | refine Chg.alloc ?_ _ | refine Chg.drew ?_))) id (fun _ _ => id))).mono (fun _ _ z => z.told b4 H4.out))))
          | (go_at_call 60; (with_reducible exact Calls.plus_of ((c60 P u m h (by omega) P' u' m' h' (by omega) _ (SetAt.chg HSA.out (F := fun _ => False) (by (repeat (with_reducible first | exact Chg.refl _ _ | refine Chg.plus ?_ _ _ | refine Chg.alloc ?_ _ | refine Chg.drew ?_))) id (fun _ _ => id)) (SetAt.chg HSB.out (F := fun _ => False) (by (repeat (with_reducible first | exact Chg.refl _ _ | refine Chg.plus ?_ _ _ | refine Chg.alloc ?_ _ | refine Chg.drew ?_))) id (fun _ _ => id))).mono (fun _ _ z => z.told b5 H5.out))))))
        refine wpQuiet_nil ?_
        intro _ hq
        obtain ⟨⟨dq, oq⟩, rfl⟩ := hq
        go_wp2_with fail
        go_ret
        exact ⟨_, (fun j => match j with | 0 => b0 | 1 => b1 | 2 => b2 | 3 => b3 | 4 => b4 | _ => b5), rfl, ((HC1.out.trans HW3.out).trans (by (repeat (with_reducible first | exact Chg.refl _ _ | refine Chg.plus ?_ _ _ | refine Chg.alloc ?_ _ | refine Chg.drew ?_)))), blk_new (by simp), m, h, m', h', HS1.out.can, HM.out, HS2.out.can, HM2.out, HB.out⟩
end Go.Proofs.YtmoabfpdlbngeaaGreatDoor
end
