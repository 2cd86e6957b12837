/-
  Part of the proofs on the laws of pub-addresssets: joined texts (C29).
-/
import Derived.Test.YtmoabfpdlbngeaaGreatDoorVSD
section
namespace Go.Proofs.YtmoabfpdlbngeaaGreatDoor
open Go.RowKit
set_option maxHeartbeats 400000
set_option linter.unusedVariables false
set_option linter.unusedSimpArgs false
def pfL (k n : Nat) : List Value := [.int .u64 (hK k), .int .u64 (lK k), .bool true, .bool (sK k), .string ⟨#[]⟩, .int .u8 ((n : Nat) + 1 : Int)]
theorem newSt (W : World) (s : StepV) : (W.alloc (.cells #[.int .i64 (s.kind : Int), .bool (sK s.r.1), .int .u64 (hK s.r.1), .int .u64 (mK s.r.1), .bool (sK s.r.2), .int .u64 (hK s.r.2), .int .u64 (mK s.r.2), .int .i64 (s.bits : Int)] 42)).rangeAt W.heap.size 0 (stL s) :=
  rangeAt_of _ _ _ 42 (heap_alloc_new W _) 0 _ (fun j hj => by rw [Nat.zero_add, ← Array.getElem?_toList]; rfl)
theorem newPf (W : World) (B : Nat) (k n : Nat) (hB : B = W.heap.size) : (W.alloc (.cells #[.int .u64 (hK k), .int .u64 (lK k), .bool true, .bool (sK k), .string ⟨#[]⟩, .int .u8 ((n : Nat) + 1 : Int)] 93)).rangeAt B 0 (pfL k n) := by
  subst hB
  exact rangeAt_of _ _ _ 93 (heap_alloc_new W _) 0 _ (fun j hj => by rw [Nat.zero_add, ← Array.getElem?_toList]; rfl)
theorem pf_cells {W : World} {g o k n : Nat} (h : W.rangeAt g o (pfL k n)) : W.cell? ⟨g, o, none⟩ = some (.int .u64 (hK k)) ∧ W.cell? ⟨g, o + 1, none⟩ = some (.int .u64 (lK k)) ∧ W.cell? ⟨g, o + 2, none⟩ = some (.bool true) ∧ W.cell? ⟨g, o + 3, none⟩ = some (.bool (sK k)) ∧ W.cell? ⟨g, o + 4, none⟩ = some (.string ⟨#[]⟩) ∧ W.cell? ⟨g, o + 5, none⟩ = some (.int .u8 ((n : Nat) + 1 : Int)) :=
  ⟨h 0 _ rfl, h 1 _ rfl, h 2 _ rfl, h 3 _ rfl, h 4 _ rfl, h 5 _ rfl⟩
/-- What a play leaves. -/
def PlayE (w w' : World) (P P' : Nat) (S K : Nat → Prop) : Prop := ∃ u m h u' m' h', Chg (fun _ => False) w w' ∧ SetAt w' P u m h ∧ (∀ k, MemR m h k ↔ S k) ∧ SetAt w' P' u' m' h' ∧ (∀ k, MemR m' h' k ↔ K k) ∧ m ≤ 20000000 ∧ m' ≤ 20000000 ∧ w.heap.size ≤ P ∧ (∀ k, u.ownBlock = some k → w.heap.size ≤ k)
set_option maxRecDepth 100000 in
set_option maxHeartbeats 4000000 in
theorem c29 (v0 : Value) (n : Nat) (g : Nat → StepV) (L : Nat → Nat → Nat → Prop) (hL : LimS n g L) (hn : n ≤ 20000000) (hg : ∀ i, i < n → okStep (g i)) (w : World) (H : Rd layS w v0 n g) :
    Calls Tryz.prog 29 #[v0] w fun e w' => ∃ P P', e = .returned (.tuple #[.pointer (some ⟨P, 0, none⟩), .pointer (some ⟨P', 0, none⟩)]) ∧ Hid (PlayE w w' P P' (runS g n).1 (runS g n).2) := by
  obtain ⟨p, c, rfl, hnc, hr⟩ := H
  have HR : Hid _ := hr
  have HL : Hid _ := hL
  have HGK : Hid _ := hg
  clear hr hL hg
  go_enter Tryz.func29, Tryz.ntmps29

  go_wp2_with fail
  go_loopw [5, 14] (fun t5 t14 wr => ∃ (i P N m : Nat), t14 = .int .i64 i ∧ t5 = .pointer (some ⟨P, 0, none⟩) ∧ i ≤ n ∧ Hid (PlayR w wr w.heap.size P (runS g i).1 (runS g i).2 N m ∧ L i N m))
    (fun _ t14 _ => n - (intOf t14).toNat)
  case atStart =>
    refine ⟨0, w.heap.size + 1, 0, 0, rfl, rfl, Nat.zero_le _, ⟨.slice none 0 0, .slice none 0 0, .slice none 0 0, allF, by (repeat (with_reducible first | refine Chg.plus ?_ _ _ | refine Chg.alloc ?_ _ | refine Chg.drew ?_ | exact Chg.refl _ _)), (Bs.empty w).chg0 ((Chg.refl _ _).alloc _), ⟨?_, .inl ⟨rfl, rfl⟩, .nil _⟩, fun k e q => by simp [Value.ownBlock] at e, fun k => ⟨fun q => absurd q (MemR_zero _ _), fun q => q.elim⟩, Nat.le_refl _, fun k q => by simp [Value.ownBlock] at q⟩, HL.out.z⟩
    have := heap_alloc_new (w.alloc (.cells #[.slice none 0 0, .slice none 0 0, .slice none 0 0] 129)) (.cells #[.slice none 0 0] 131)
    simpa using this
  case round =>
    generalize hB0 : w.heap.size = B at *
    obtain ⟨i, P, N, m, rfl, rfl, hi, X⟩ := hrel
    obtain ⟨⟨vi, vo, v, h, x1, x2, x3, x4, x5, x6, x7⟩, x8⟩ := X.out
    have HC : Hid _ := x1
    have HB : Hid (Bs wr B vi vo N (runS g i).1) := x2
    have HT : Hid (SetAt wr P v m h) := x3
    have HA : Hid (Apt v vi vo) := x4
    have HK : Hid _ := x5
    have HF : Hid (_ ∧ _) := ⟨x6, x7⟩
    have hLi : Hid (L i N m) := x8
    have hb := HL.out.bb hi x8
    have hNb := hb.1
    have hmb := hb.2
    clear X x1 x2 x3 x4 x5 x6 x7 x8 hb
    by_cases hlt : i < n
    · obtain ⟨G, o, rfl, hrow⟩ := HR.out (by omega)
      have r1 : wr.rangeAt G (o + i * 8) (stL (g i)) := rangeAt_chg HC.out (hrow i hlt) id
      obtain ⟨ca0, ca1, ca2, ca3, ca4, ca5, ca6, ca7⟩ := st_cells r1
      have hG : G < wr.heap.size := World.block_lt_of_cell? _ _ ca0
      have ok : Hid (okStep (g i)) := HGK.out i hlt
      have oa : okK (g i).r.1 := ok.out.r.a
      have ob : okK (g i).r.2 := ok.out.r.b
      have obt : (g i).bits ≤ lenK (g i).r.1 := ok.out.bits
      clear hrow r1
      go_upto_region 6 with fail
      go_cut [8] from 18 to 84 (fun t8 wx => ∃ b8 : Nat, t8 = .pointer (some ⟨b8, 0, none⟩) ∧ Hid (Chg (fun _ => False) wr wx ∧ wx.rangeAt wr.heap.size 0 (stL (g i)) ∧ wx.rangeAt b8 0 (rcL (g i).r)))
      case first =>
        go_region_held3 (fun w' => KS ((wr.alloc (.cells #[.int .i64 ((g i).kind : Int), .bool (sK (g i).r.1), .int .u64 (hK (g i).r.1), .int .u64 (mK (g i).r.1), .bool (sK (g i).r.2), .int .u64 (hK (g i).r.2), .int .u64 (mK (g i).r.2), .int .i64 ((g i).bits : Int)] 42))) w') (repeat (first | exact KS.refl _ | assumption | apply KS.drew | apply KS.plus | apply KS.alloc | (refine KS.setCell ?_ _ _ _ (by first | (simp; done) | (simp; omega))))) (first | (go_at_call 52; (with_reducible refine (k52 _ ?_ _).mono ?_); (focus assumption); rintro e w' ⟨rfl, dd, oo, rfl⟩) | (go_at_call 53; (with_reducible refine (k53r (g i).r _).mono ?_); rintro e w' ⟨rfl, dd, oo, rfl⟩))
        all_goals (
          go_wp2_with fail
          go_meet
          case rel =>
            refine ⟨_, rfl, by (repeat (with_reducible first | refine Chg.plus ?_ _ _ | refine Chg.alloc ?_ _ | refine Chg.drew ?_ | exact Chg.refl _ _)), rangeAt_chg (F := fun _ => False) (by (repeat (with_reducible first | exact Chg.refl _ _ | refine Chg.plus ?_ _ _ | refine Chg.alloc ?_ _ | refine Chg.drew ?_))) (newSt wr (g i)) id, ?_⟩
            (repeat (with_reducible first | exact rangeAt_new _ _ (g i).r (by simp) | refine rangeAt_plus ?_ _ _ | refine World.rangeAt_alloc ?_ _ | refine (World.rangeAt_drew _ _ _ _).2 ?_)))
      case rest =>
        obtain ⟨b8, rfl, Z⟩ := hcut
        have HW0 : Hid (Chg (fun _ => False) wr wc) := Z.out.1
        have R7 : Hid (wc.rangeAt wr.heap.size 0 (stL (g i))) := Z.out.2.1
        have R8 : Hid (wc.rangeAt b8 0 (rcL (g i).r)) := Z.out.2.2
        clear ca0 ca1 ca2 ca3 ca4 ca5 ca6 ca7 hG
        obtain ⟨ca0, ca1, ca2, ca3, ca4, ca5, ca6, ca7⟩ := st_cells R7.out
        have hl7 : wr.heap.size < wc.heap.size := World.block_lt_of_cell? _ _ ca0
        clear Z
        obtain ⟨wk, rfl⟩ : ∃ wk : World, wk = wc := ⟨_, rfl⟩
        go_upto_region 7 with fail
        go_cut [9] from 18 to 84 (fun t9 wx => ∃ b9 : Nat, t9 = .pointer (some ⟨b9, 0, none⟩) ∧ Hid (Chg (fun _ => False) wk wx ∧ wx.rangeAt b9 0 (pfL (g i).r.1 (g i).bits)))
        case first =>
          go_region_held3 (fun w' => KS (wk) w') (repeat (first | exact KS.refl _ | assumption | apply KS.drew | apply KS.plus | apply KS.alloc | (refine KS.setCell ?_ _ _ _ (by first | (simp; done) | (simp; omega))))) (first | (go_at_call 52; (with_reducible refine (k52 _ ?_ _).mono ?_); (focus assumption); rintro e w' ⟨rfl, dd, oo, rfl⟩) | (go_at_call 54; (with_reducible refine (k54 (g i).r.1 (g i).bits oa obt _).mono ?_); rintro e w' ⟨rfl, dd, oo, rfl⟩))
          all_goals (
            go_wp2_with fail
            go_meet
            case rel =>
              refine ⟨_, rfl, by (repeat (with_reducible first | refine Chg.plus ?_ _ _ | refine Chg.alloc ?_ _ | refine Chg.drew ?_ | exact Chg.refl _ _)), ?_⟩
              (repeat (with_reducible first | exact newPf _ _ (g i).r.1 (g i).bits (by simp) | refine rangeAt_plus ?_ _ _ | refine World.rangeAt_alloc ?_ _ | refine (World.rangeAt_drew _ _ _ _).2 ?_)))
        case rest =>
          obtain ⟨b9, rfl, Z⟩ := hcut
          have HW : Hid (Chg (fun _ => False) wr wc) := HW0.out.trans Z.out.1
          clear ca0 ca1 ca2 ca3 ca4 ca5 ca6 ca7 hl7
          obtain ⟨ca0, ca1, ca2, ca3, ca4, ca5, ca6, ca7⟩ := st_cells (rangeAt_chg Z.out.1 R7.out id)
          obtain ⟨cr0, cr1, cr2, cr3, cr4, cr5, cr6, cr7, cr8, cr9⟩ := rc_cells (rangeAt_chg Z.out.1 R8.out id)
          obtain ⟨cp0, cp1, cp2, cp3, cp4, cp5⟩ := pf_cells Z.out.2
          have hl7 : wr.heap.size < wc.heap.size := World.block_lt_of_cell? _ _ ca0
          have hl8 : b8 < wc.heap.size := World.block_lt_of_cell? _ _ cr0
          have hl9 : b9 < wc.heap.size := World.block_lt_of_cell? _ _ cp0
          clear Z R7 R8 HW0
          have hcs : (g i).kind = 0 ∨ (g i).kind = 1 ∨ (g i).kind = 2 ∨ (g i).kind = 3 ∨ (g i).kind = 4 ∨ (g i).kind = 5 ∨ (g i).kind = 6 ∨ (g i).kind = 7 ∨ (g i).kind = 8 ∨ (g i).kind = 9 ∨ (g i).kind = 10 := by have := ok.out.kind; omega
          rcases hcs with hc | hc | hc | hc | hc | hc | hc | hc | hc | hc | hc
          · have ek : (g i).kind = 0 := hc
            have eS : runS g (i + 1) = stepS (g i) (runS g i) := rfl
            have hSt : Hid (stepS (g i) (runS g i) = stepS ⟨0, (g i).r, (g i).bits⟩ (runS g i)) := by
              unfold Hid; rw [← ek]
            rw [ek] at ca0
            have HG : Hid (∀ N' m', grow 0 N m N' m' → L (i + 1) N' m') := fun N' m' q => HL.out.s i N m N' m' hlt hLi.out (by rw [ek]; exact q)
            have cb0 : wc.cell? ⟨wr.heap.size, 0, none⟩ = some (.int .i64 0) := ca0
            clear ek eS hc ca0
            go_wp2_with fail
            refine (s72 B vi vo N _ (by omega) (g i).r ok.out.r _ (Bs.chg0 HB.out (by (repeat (with_reducible first | exact Chg.refl _ _ | exact HW.out | refine Chg.plus ?_ _ _ | refine Chg.alloc ?_ _ | refine Chg.drew ?_))))).mono ?_
            rintro e w2 ⟨rfl, Z⟩
            have HZ : Hid (PlayR w w2 B P (runS g (i + 1)).1 (runS g (i + 1)).2 (N + 1) m) := by
              have e : runS g (i + 1) = stepS ⟨0, (g i).r, (g i).bits⟩ (runS g i) := hSt.out
              refine PlayR.stp HC.out HB.out HT.out HA.out HK.out HF.out.1 HF.out.2 (Stp.from0 (w := wr) Z (by (repeat (with_reducible first | exact Chg.refl _ _ | exact HW.out | refine Chg.plus ?_ _ _ | refine Chg.alloc ?_ _ | refine Chg.drew ?_)))) (fun k => ?_) (fun k => by rw [e]; exact Iff.rfl)
              rw [e]
              exact Iff.rfl
            have HLn : Hid (L (i + 1) (N + 1) m) := HG.out _ _ (by unfold grow; omega)
            clear Z cb0 ca1 ca2 ca3 ca4 ca5 ca6 ca7 cr0 cr1 cr2 cr3 cr4 cr5 cr6 cr7 cr8 cr9 cp0 cp1 cp2 cp3 cp4 cp5
            go_wp2_with fail
            go_roundw
            case rel => exact ⟨i + 1, P, N + 1, m, by go_num, rfl, by omega, HZ.out, HLn.out⟩
            case measure => simp [intOf]; omega
          · have ek : (g i).kind = 1 := hc
            have eS : runS g (i + 1) = stepS (g i) (runS g i) := rfl
            have hSt : Hid (stepS (g i) (runS g i) = stepS ⟨1, (g i).r, (g i).bits⟩ (runS g i)) := by
              unfold Hid; rw [← ek]
            rw [ek] at ca0
            have HG : Hid (∀ N' m', grow 1 N m N' m' → L (i + 1) N' m') := fun N' m' q => HL.out.s i N m N' m' hlt hLi.out (by rw [ek]; exact q)
            have cb0 : wc.cell? ⟨wr.heap.size, 0, none⟩ = some (.int .i64 1) := ca0
            clear ek eS hc ca0
            go_wp2_with fail
            refine (s73 B vi vo N _ (by omega) (g i).r ok.out.r _ (Bs.chg0 HB.out (by (repeat (with_reducible first | exact Chg.refl _ _ | exact HW.out | refine Chg.plus ?_ _ _ | refine Chg.alloc ?_ _ | refine Chg.drew ?_))))).mono ?_
            rintro e w2 ⟨rfl, Z⟩
            have HZ : Hid (PlayR w w2 B P (runS g (i + 1)).1 (runS g (i + 1)).2 (N + 1) m) := by
              have e : runS g (i + 1) = stepS ⟨1, (g i).r, (g i).bits⟩ (runS g i) := hSt.out
              refine PlayR.stp HC.out HB.out HT.out HA.out HK.out HF.out.1 HF.out.2 (Stp.from0 (w := wr) Z (by (repeat (with_reducible first | exact Chg.refl _ _ | exact HW.out | refine Chg.plus ?_ _ _ | refine Chg.alloc ?_ _ | refine Chg.drew ?_)))) (fun k => ?_) (fun k => by rw [e]; exact Iff.rfl)
              rw [e]
              exact Iff.rfl
            have HLn : Hid (L (i + 1) (N + 1) m) := HG.out _ _ (by unfold grow; omega)
            clear Z cb0 ca1 ca2 ca3 ca4 ca5 ca6 ca7 cr0 cr1 cr2 cr3 cr4 cr5 cr6 cr7 cr8 cr9 cp0 cp1 cp2 cp3 cp4 cp5
            go_wp2_with fail
            go_roundw
            case rel => exact ⟨i + 1, P, N + 1, m, by go_num, rfl, by omega, HZ.out, HLn.out⟩
            case measure => simp [intOf]; omega
          · have ek : (g i).kind = 2 := hc
            have eS : runS g (i + 1) = stepS (g i) (runS g i) := rfl
            have hSt : Hid (stepS (g i) (runS g i) = stepS ⟨2, (g i).r, (g i).bits⟩ (runS g i)) := by
              unfold Hid; rw [← ek]
            rw [ek] at ca0
            have HG : Hid (∀ N' m', grow 2 N m N' m' → L (i + 1) N' m') := fun N' m' q => HL.out.s i N m N' m' hlt hLi.out (by rw [ek]; exact q)
            have cb0 : wc.cell? ⟨wr.heap.size, 0, none⟩ = some (.int .i64 2) := ca0
            clear ek eS hc ca0
            go_wp2_with fail
            refine (s74 B vi vo N _ (by omega) (g i).r.1 (g i).bits ok.out.r.a ok.out.bits _ (Bs.chg0 HB.out (by (repeat (with_reducible first | exact Chg.refl _ _ | exact HW.out | refine Chg.plus ?_ _ _ | refine Chg.alloc ?_ _ | refine Chg.drew ?_))))).mono ?_
            rintro e w2 ⟨rfl, Z⟩
            have HZ : Hid (PlayR w w2 B P (runS g (i + 1)).1 (runS g (i + 1)).2 (N + 1) m) := by
              have e : runS g (i + 1) = stepS ⟨2, (g i).r, (g i).bits⟩ (runS g i) := hSt.out
              refine PlayR.stp HC.out HB.out HT.out HA.out HK.out HF.out.1 HF.out.2 (Stp.from0 (w := wr) Z (by (repeat (with_reducible first | exact Chg.refl _ _ | exact HW.out | refine Chg.plus ?_ _ _ | refine Chg.alloc ?_ _ | refine Chg.drew ?_)))) (fun k => ?_) (fun k => by rw [e]; exact Iff.rfl)
              rw [e]
              exact Iff.rfl
            have HLn : Hid (L (i + 1) (N + 1) m) := HG.out _ _ (by unfold grow; omega)
            clear Z cb0 ca1 ca2 ca3 ca4 ca5 ca6 ca7 cr0 cr1 cr2 cr3 cr4 cr5 cr6 cr7 cr8 cr9 cp0 cp1 cp2 cp3 cp4 cp5
            go_wp2_with fail
            go_roundw
            case rel => exact ⟨i + 1, P, N + 1, m, by go_num, rfl, by omega, HZ.out, HLn.out⟩
            case measure => simp [intOf]; omega
          · have ek : (g i).kind = 3 := hc
            have eS : runS g (i + 1) = stepS (g i) (runS g i) := rfl
            have hSt : Hid (stepS (g i) (runS g i) = stepS ⟨3, (g i).r, (g i).bits⟩ (runS g i)) := by
              unfold Hid; rw [← ek]
            rw [ek] at ca0
            have HG : Hid (∀ N' m', grow 3 N m N' m' → L (i + 1) N' m') := fun N' m' q => HL.out.s i N m N' m' hlt hLi.out (by rw [ek]; exact q)
            have cb0 : wc.cell? ⟨wr.heap.size, 0, none⟩ = some (.int .i64 3) := ca0
            clear ek eS hc ca0
            go_wp2_with fail
            refine (s75 B vi vo N _ (by omega) (g i).r.1 (g i).bits ok.out.r.a ok.out.bits _ (Bs.chg0 HB.out (by (repeat (with_reducible first | exact Chg.refl _ _ | exact HW.out | refine Chg.plus ?_ _ _ | refine Chg.alloc ?_ _ | refine Chg.drew ?_))))).mono ?_
            rintro e w2 ⟨rfl, Z⟩
            have HZ : Hid (PlayR w w2 B P (runS g (i + 1)).1 (runS g (i + 1)).2 (N + 1) m) := by
              have e : runS g (i + 1) = stepS ⟨3, (g i).r, (g i).bits⟩ (runS g i) := hSt.out
              refine PlayR.stp HC.out HB.out HT.out HA.out HK.out HF.out.1 HF.out.2 (Stp.from0 (w := wr) Z (by (repeat (with_reducible first | exact Chg.refl _ _ | exact HW.out | refine Chg.plus ?_ _ _ | refine Chg.alloc ?_ _ | refine Chg.drew ?_)))) (fun k => ?_) (fun k => by rw [e]; exact Iff.rfl)
              rw [e]
              exact Iff.rfl
            have HLn : Hid (L (i + 1) (N + 1) m) := HG.out _ _ (by unfold grow; omega)
            clear Z cb0 ca1 ca2 ca3 ca4 ca5 ca6 ca7 cr0 cr1 cr2 cr3 cr4 cr5 cr6 cr7 cr8 cr9 cp0 cp1 cp2 cp3 cp4 cp5
            go_wp2_with fail
            go_roundw
            case rel => exact ⟨i + 1, P, N + 1, m, by go_num, rfl, by omega, HZ.out, HLn.out⟩
            case measure => simp [intOf]; omega
          · have ek : (g i).kind = 4 := hc
            have eS : runS g (i + 1) = stepS (g i) (runS g i) := rfl
            have hSt : Hid (stepS (g i) (runS g i) = stepS ⟨4, (g i).r, (g i).bits⟩ (runS g i)) := by
              unfold Hid; rw [← ek]
            rw [ek] at ca0
            have HG : Hid (∀ N' m', grow 4 N m N' m' → L (i + 1) N' m') := fun N' m' q => HL.out.s i N m N' m' hlt hLi.out (by rw [ek]; exact q)
            have cb0 : wc.cell? ⟨wr.heap.size, 0, none⟩ = some (.int .i64 4) := ca0
            clear ek eS hc ca0
            go_wp2_with (first | (go_at_call 52; (with_reducible refine (k52 _ ?_ _).mono ?_); (focus assumption); rintro e w' ⟨rfl, dd, oo, rfl⟩))
            refine (s76 B vi vo N _ (by omega) (g i).r.1 ok.out.r.a _ (Bs.chg0 HB.out (by (repeat (with_reducible first | exact Chg.refl _ _ | exact HW.out | refine Chg.plus ?_ _ _ | refine Chg.alloc ?_ _ | refine Chg.drew ?_))))).mono ?_
            rintro e w2 ⟨rfl, Z⟩
            have HZ : Hid (PlayR w w2 B P (runS g (i + 1)).1 (runS g (i + 1)).2 (N + 1) m) := by
              have e : runS g (i + 1) = stepS ⟨4, (g i).r, (g i).bits⟩ (runS g i) := hSt.out
              refine PlayR.stp HC.out HB.out HT.out HA.out HK.out HF.out.1 HF.out.2 (Stp.from0 (w := wr) Z (by (repeat (with_reducible first | exact Chg.refl _ _ | exact HW.out | refine Chg.plus ?_ _ _ | refine Chg.alloc ?_ _ | refine Chg.drew ?_)))) (fun k => ?_) (fun k => by rw [e]; exact Iff.rfl)
              rw [e]
              exact Iff.rfl
            have HLn : Hid (L (i + 1) (N + 1) m) := HG.out _ _ (by unfold grow; omega)
            clear Z cb0 ca1 ca2 ca3 ca4 ca5 ca6 ca7 cr0 cr1 cr2 cr3 cr4 cr5 cr6 cr7 cr8 cr9 cp0 cp1 cp2 cp3 cp4 cp5
            go_wp2_with fail
            go_roundw
            case rel => exact ⟨i + 1, P, N + 1, m, by go_num, rfl, by omega, HZ.out, HLn.out⟩
            case measure => simp [intOf]; omega
          · have ek : (g i).kind = 5 := hc
            have eS : runS g (i + 1) = stepS (g i) (runS g i) := rfl
            have hSt : Hid (stepS (g i) (runS g i) = stepS ⟨5, (g i).r, (g i).bits⟩ (runS g i)) := by
              unfold Hid; rw [← ek]
            rw [ek] at ca0
            have HG : Hid (∀ N' m', grow 5 N m N' m' → L (i + 1) N' m') := fun N' m' q => HL.out.s i N m N' m' hlt hLi.out (by rw [ek]; exact q)
            have cb0 : wc.cell? ⟨wr.heap.size, 0, none⟩ = some (.int .i64 5) := ca0
            clear ek eS hc ca0
            go_wp2_with (first | (go_at_call 52; (with_reducible refine (k52 _ ?_ _).mono ?_); (focus assumption); rintro e w' ⟨rfl, dd, oo, rfl⟩))
            refine (s77 B vi vo N _ (by omega) (g i).r.1 ok.out.r.a _ (Bs.chg0 HB.out (by (repeat (with_reducible first | exact Chg.refl _ _ | exact HW.out | refine Chg.plus ?_ _ _ | refine Chg.alloc ?_ _ | refine Chg.drew ?_))))).mono ?_
            rintro e w2 ⟨rfl, Z⟩
            have HZ : Hid (PlayR w w2 B P (runS g (i + 1)).1 (runS g (i + 1)).2 (N + 1) m) := by
              have e : runS g (i + 1) = stepS ⟨5, (g i).r, (g i).bits⟩ (runS g i) := hSt.out
              refine PlayR.stp HC.out HB.out HT.out HA.out HK.out HF.out.1 HF.out.2 (Stp.from0 (w := wr) Z (by (repeat (with_reducible first | exact Chg.refl _ _ | exact HW.out | refine Chg.plus ?_ _ _ | refine Chg.alloc ?_ _ | refine Chg.drew ?_)))) (fun k => ?_) (fun k => by rw [e]; exact Iff.rfl)
              rw [e]
              exact Iff.rfl
            have HLn : Hid (L (i + 1) (N + 1) m) := HG.out _ _ (by unfold grow; omega)
            clear Z cb0 ca1 ca2 ca3 ca4 ca5 ca6 ca7 cr0 cr1 cr2 cr3 cr4 cr5 cr6 cr7 cr8 cr9 cp0 cp1 cp2 cp3 cp4 cp5
            go_wp2_with fail
            go_roundw
            case rel => exact ⟨i + 1, P, N + 1, m, by go_num, rfl, by omega, HZ.out, HLn.out⟩
            case measure => simp [intOf]; omega
          · have ek : (g i).kind = 6 := hc
            have eS : runS g (i + 1) = stepS (g i) (runS g i) := rfl
            have hSt : Hid (stepS (g i) (runS g i) = stepS ⟨6, (g i).r, (g i).bits⟩ (runS g i)) := by
              unfold Hid; rw [← ek]
            rw [ek] at ca0
            have HG : Hid (∀ N' m', grow 6 N m N' m' → L (i + 1) N' m') := fun N' m' q => HL.out.s i N m N' m' hlt hLi.out (by rw [ek]; exact q)
            have cb0 : wc.cell? ⟨wr.heap.size, 0, none⟩ = some (.int .i64 6) := ca0
            clear ek eS hc ca0
            go_wp2_with fail
            refine (s78 B vi vo N _ (by omega)  _ (Bs.chg0 HB.out (by (repeat (with_reducible first | exact Chg.refl _ _ | exact HW.out | refine Chg.plus ?_ _ _ | refine Chg.alloc ?_ _ | refine Chg.drew ?_))))).mono ?_
            rintro e w2 ⟨rfl, Z⟩
            have HZ : Hid (PlayR w w2 B P (runS g (i + 1)).1 (runS g (i + 1)).2 (N + 2) m) := by
              have e : runS g (i + 1) = stepS ⟨6, (g i).r, (g i).bits⟩ (runS g i) := hSt.out
              refine PlayR.stp HC.out HB.out HT.out HA.out HK.out HF.out.1 HF.out.2 (Stp.from0 (w := wr) Z (by (repeat (with_reducible first | exact Chg.refl _ _ | exact HW.out | refine Chg.plus ?_ _ _ | refine Chg.alloc ?_ _ | refine Chg.drew ?_)))) (fun k => ?_) (fun k => by rw [e]; exact Iff.rfl)
              rw [e]
              exact Iff.rfl
            have HLn : Hid (L (i + 1) (N + 2) m) := HG.out _ _ (by unfold grow; omega)
            clear Z cb0 ca1 ca2 ca3 ca4 ca5 ca6 ca7 cr0 cr1 cr2 cr3 cr4 cr5 cr6 cr7 cr8 cr9 cp0 cp1 cp2 cp3 cp4 cp5
            go_wp2_with fail
            go_roundw
            case rel => exact ⟨i + 1, P, N + 2, m, by go_num, rfl, by omega, HZ.out, HLn.out⟩
            case measure => simp [intOf]; omega
          · have ek : (g i).kind = 7 := hc
            have eS : runS g (i + 1) = stepS (g i) (runS g i) := rfl
            have hSt : Hid (stepS (g i) (runS g i) = stepS ⟨7, (g i).r, (g i).bits⟩ (runS g i)) := by
              unfold Hid; rw [← ek]
            rw [ek] at ca0
            have HG : Hid (∀ N' m', grow 7 N m N' m' → L (i + 1) N' m') := fun N' m' q => HL.out.s i N m N' m' hlt hLi.out (by rw [ek]; exact q)
            have cb0 : wc.cell? ⟨wr.heap.size, 0, none⟩ = some (.int .i64 7) := ca0
            clear ek eS hc ca0
            go_wp2_with fail
            refine (s80 B vi vo N _ (by omega) _ (Bs.chg0 HB.out (by (repeat (with_reducible first | exact Chg.refl _ _ | exact HW.out | refine Chg.plus ?_ _ _ | refine Chg.alloc ?_ _ | refine Chg.drew ?_))))).mono ?_
            rintro e w2 ⟨Q, rfl, Z⟩
            obtain ⟨v1, v2, z1, z2, z3, z4⟩ := Z.out
            have D0 : Hid (Chg (fun _ => False) wr w2) := Chg.trans (by (repeat (with_reducible first | exact Chg.refl _ _ | exact HW.out | refine Chg.plus ?_ _ _ | refine Chg.alloc ?_ _ | refine Chg.drew ?_))) z1
            have D1 : Hid _ := z2
            have D2 : Hid (wr.heap.size ≤ Q) := Nat.le_trans HW.out.size z3
            have D3 : Hid (∀ k, (v1.ownBlock = some k ∨ v2.ownBlock = some k) → wr.heap.size ≤ k) := fun k q => Nat.le_trans HW.out.size (z4 k q)
            clear Z z1 z2 z3 z4 cb0 ca1 ca2 ca3 ca4 ca5 ca6 ca7 cr0 cr1 cr2 cr3 cr4 cr5 cr6 cr7 cr8 cr9 cp0 cp1 cp2 cp3 cp4 cp5
            go_wp2_with fail
            refine (c79 Q v1 v2 N _ (by omega) _ D1.out).mono ?_
            rintro e w3 ⟨P', rfl, Z⟩
            obtain ⟨v3, u, m', h', I⟩ := Z.out
            have hle := I.le
            have HZ : Hid (PlayR w w3 B P' (runS g (i + 1)).1 (runS g (i + 1)).2 N m') := by
              have e : runS g (i + 1) = stepS ⟨7, (g i).r, (g i).bits⟩ (runS g i) := hSt.out
              exact PlayR.keep (K := fun _ => False) (P := 0) (m := 0) (v := vi) (h := h') HC.out HB.out HF.out.1 HF.out.2 D0.out D2.out D3.out I (fun k => by rw [e]; exact Iff.rfl) (fun k => by rw [e]; exact Iff.rfl)
            have HLn : Hid (L (i + 1) N m') := HG.out _ _ (by unfold grow; omega)
            clear Z I
            go_wp2_with fail
            go_roundw
            case rel => exact ⟨i + 1, P', N, m', by go_num, rfl, by omega, HZ.out, HLn.out⟩
            case measure => simp [intOf]; omega
          · have ek : (g i).kind = 8 := hc
            have eS : runS g (i + 1) = stepS (g i) (runS g i) := rfl
            have hSt : Hid (stepS (g i) (runS g i) = stepS ⟨8, (g i).r, (g i).bits⟩ (runS g i)) := by
              unfold Hid; rw [← ek]
            rw [ek] at ca0
            have HG : Hid (∀ N' m', grow 8 N m N' m' → L (i + 1) N' m') := fun N' m' q => HL.out.s i N m N' m' hlt hLi.out (by rw [ek]; exact q)
            have cb0 : wc.cell? ⟨wr.heap.size, 0, none⟩ = some (.int .i64 8) := ca0
            clear ek eS hc ca0
            go_wp2_with fail
            refine (s81 B vi vo N _ (by omega) P v m h (by omega) _ (Bs.chg0 HB.out (by (repeat (with_reducible first | exact Chg.refl _ _ | exact HW.out | refine Chg.plus ?_ _ _ | refine Chg.alloc ?_ _ | refine Chg.drew ?_)))) (SetAt.chg HT.out (F := fun _ => False) (by (repeat (with_reducible first | exact Chg.refl _ _ | exact HW.out | refine Chg.plus ?_ _ _ | refine Chg.alloc ?_ _ | refine Chg.drew ?_))) id (fun _ _ => id)) HA.out).mono ?_
            rintro e w2 ⟨rfl, Z⟩
            have HZ : Hid (PlayR w w2 B P (runS g (i + 1)).1 (runS g (i + 1)).2 (N + m) m) := by
              have e : runS g (i + 1) = stepS ⟨8, (g i).r, (g i).bits⟩ (runS g i) := hSt.out
              refine PlayR.stp HC.out HB.out HT.out HA.out HK.out HF.out.1 HF.out.2 (Stp.from0 (w := wr) Z (by (repeat (with_reducible first | exact Chg.refl _ _ | exact HW.out | refine Chg.plus ?_ _ _ | refine Chg.alloc ?_ _ | refine Chg.drew ?_)))) (fun k => ?_) (fun k => by rw [e]; exact Iff.rfl)
              rw [e]
              show _ ↔ ((runS g i).1 k ∨ (runS g i).2 k); rw [← HK.out k]
            have HLn : Hid (L (i + 1) (N + m) m) := HG.out _ _ (by unfold grow; omega)
            clear Z cb0 ca1 ca2 ca3 ca4 ca5 ca6 ca7 cr0 cr1 cr2 cr3 cr4 cr5 cr6 cr7 cr8 cr9 cp0 cp1 cp2 cp3 cp4 cp5
            go_wp2_with fail
            go_roundw
            case rel => exact ⟨i + 1, P, N + m, m, by go_num, rfl, by omega, HZ.out, HLn.out⟩
            case measure => simp [intOf]; omega
          · have ek : (g i).kind = 9 := hc
            have eS : runS g (i + 1) = stepS (g i) (runS g i) := rfl
            have hSt : Hid (stepS (g i) (runS g i) = stepS ⟨9, (g i).r, (g i).bits⟩ (runS g i)) := by
              unfold Hid; rw [← ek]
            rw [ek] at ca0
            have HG : Hid (∀ N' m', grow 9 N m N' m' → L (i + 1) N' m') := fun N' m' q => HL.out.s i N m N' m' hlt hLi.out (by rw [ek]; exact q)
            have cb0 : wc.cell? ⟨wr.heap.size, 0, none⟩ = some (.int .i64 9) := ca0
            clear ek eS hc ca0
            go_wp2_with fail
            refine (s82 B vi vo N _ (by omega) P v m h (by omega) _ (Bs.chg0 HB.out (by (repeat (with_reducible first | exact Chg.refl _ _ | exact HW.out | refine Chg.plus ?_ _ _ | refine Chg.alloc ?_ _ | refine Chg.drew ?_)))) (SetAt.chg HT.out (F := fun _ => False) (by (repeat (with_reducible first | exact Chg.refl _ _ | exact HW.out | refine Chg.plus ?_ _ _ | refine Chg.alloc ?_ _ | refine Chg.drew ?_))) id (fun _ _ => id)) HA.out).mono ?_
            rintro e w2 ⟨rfl, Z⟩
            have HZ : Hid (PlayR w w2 B P (runS g (i + 1)).1 (runS g (i + 1)).2 (N + m) m) := by
              have e : runS g (i + 1) = stepS ⟨9, (g i).r, (g i).bits⟩ (runS g i) := hSt.out
              refine PlayR.stp HC.out HB.out HT.out HA.out HK.out HF.out.1 HF.out.2 (Stp.from0 (w := wr) Z (by (repeat (with_reducible first | exact Chg.refl _ _ | exact HW.out | refine Chg.plus ?_ _ _ | refine Chg.alloc ?_ _ | refine Chg.drew ?_)))) (fun k => ?_) (fun k => by rw [e]; exact Iff.rfl)
              rw [e]
              show _ ↔ ((runS g i).1 k ∧ ¬ (runS g i).2 k); rw [← HK.out k]
            have HLn : Hid (L (i + 1) (N + m) m) := HG.out _ _ (by unfold grow; omega)
            clear Z cb0 ca1 ca2 ca3 ca4 ca5 ca6 ca7 cr0 cr1 cr2 cr3 cr4 cr5 cr6 cr7 cr8 cr9 cp0 cp1 cp2 cp3 cp4 cp5
            go_wp2_with fail
            go_roundw
            case rel => exact ⟨i + 1, P, N + m, m, by go_num, rfl, by omega, HZ.out, HLn.out⟩
            case measure => simp [intOf]; omega
          · have ek : (g i).kind = 10 := hc
            have eS : runS g (i + 1) = stepS (g i) (runS g i) := rfl
            have hSt : Hid (stepS (g i) (runS g i) = stepS ⟨10, (g i).r, (g i).bits⟩ (runS g i)) := by
              unfold Hid; rw [← ek]
            rw [ek] at ca0
            have HG : Hid (∀ N' m', grow 10 N m N' m' → L (i + 1) N' m') := fun N' m' q => HL.out.s i N m N' m' hlt hLi.out (by rw [ek]; exact q)
            have cb0 : wc.cell? ⟨wr.heap.size, 0, none⟩ = some (.int .i64 10) := ca0
            clear ek eS hc ca0
            go_wp2_with fail
            refine (s83 B vi vo N _ (by omega) P v m h (by omega) _ (Bs.chg0 HB.out (by (repeat (with_reducible first | exact Chg.refl _ _ | exact HW.out | refine Chg.plus ?_ _ _ | refine Chg.alloc ?_ _ | refine Chg.drew ?_)))) (SetAt.chg HT.out (F := fun _ => False) (by (repeat (with_reducible first | exact Chg.refl _ _ | exact HW.out | refine Chg.plus ?_ _ _ | refine Chg.alloc ?_ _ | refine Chg.drew ?_))) id (fun _ _ => id)) HA.out).mono ?_
            rintro e w2 ⟨rfl, Z⟩
            have HZ : Hid (PlayR w w2 B P (runS g (i + 1)).1 (runS g (i + 1)).2 (N + (2 + m)) m) := by
              have e : runS g (i + 1) = stepS ⟨10, (g i).r, (g i).bits⟩ (runS g i) := hSt.out
              refine PlayR.stp HC.out HB.out HT.out HA.out HK.out HF.out.1 HF.out.2 (Stp.from0 (w := wr) Z (by (repeat (with_reducible first | exact Chg.refl _ _ | exact HW.out | refine Chg.plus ?_ _ _ | refine Chg.alloc ?_ _ | refine Chg.drew ?_)))) (fun k => ?_) (fun k => by rw [e]; exact Iff.rfl)
              rw [e]
              show _ ↔ ((runS g i).1 k ∧ ¬ (okK k ∧ ¬ (runS g i).2 k)); rw [← HK.out k]
            have HLn : Hid (L (i + 1) (N + (2 + m)) m) := HG.out _ _ (by unfold grow; omega)
            clear Z cb0 ca1 ca2 ca3 ca4 ca5 ca6 ca7 cr0 cr1 cr2 cr3 cr4 cr5 cr6 cr7 cr8 cr9 cp0 cp1 cp2 cp3 cp4 cp5
            go_wp2_with fail
            go_roundw
            case rel => exact ⟨i + 1, P, N + (2 + m), m, by go_num, rfl, by omega, HZ.out, HLn.out⟩
            case measure => simp [intOf]; omega

    · obtain rfl : i = n := by omega
      go_wp2_with fail
      refine (c79 B vi vo N _ (by omega) _ HB.out).mono ?_
      rintro e w2 ⟨P', rfl, Z⟩
      go_wp2_with fail
      go_ret2
      obtain ⟨v3, u, m', h', I⟩ := Z.out
      have l := I.le
      refine ⟨_, _, rfl, u, m', h', v, m, h, (Moved.chg0 HC.out I.mv (by have := HF.out.1; omega) HF.out.2).1, I.set, I.mem, ((SetAt.moved HB.out HT.out HA.out I.mv).1), HK.out, by omega, by omega, ?_, ?_⟩
      · have := I.hP; have := HC.out.size; omega
      · intro k e; have := I.hu k e; have := HC.out.size; omega
end Go.Proofs.YtmoabfpdlbngeaaGreatDoor
end
