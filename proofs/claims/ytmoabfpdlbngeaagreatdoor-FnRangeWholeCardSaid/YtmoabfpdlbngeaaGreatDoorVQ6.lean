/-
  Part of the proofs on the laws of pub-addresssets: joined texts (Q6, Q7, Q8).
-/
import Derived.Test.YtmoabfpdlbngeaaGreatDoorVQ3
section
namespace Go.Proofs.YtmoabfpdlbngeaaGreatDoor
open Go.RowKit
set_option maxHeartbeats 400000
set_option linter.unusedVariables false
set_option linter.unusedSimpArgs false
theorem k32 (r : Nat × Nat) (w : World) : Calls Tryz.prog 32 #[.agg #[.int .u64 (hK r.1), .int .u64 (lK r.1), .bool true, .bool (sK r.1), .string ⟨#[]⟩, .int .u64 (hK r.2), .int .u64 (lK r.2), .bool true, .bool (sK r.2), .string ⟨#[]⟩]] w fun e w' => e = .returned (.agg #[.int .u64 (hK r.1), .int .u64 (lK r.1), .bool true, .bool (sK r.1), .string ⟨#[]⟩]) ∧ Plus w w' := c32 _ _ _ _ _ _ w
theorem k33 (r : Nat × Nat) (w : World) : Calls Tryz.prog 33 #[.agg #[.int .u64 (hK r.1), .int .u64 (lK r.1), .bool true, .bool (sK r.1), .string ⟨#[]⟩, .int .u64 (hK r.2), .int .u64 (lK r.2), .bool true, .bool (sK r.2), .string ⟨#[]⟩]] w fun e w' => e = .returned (.agg #[.int .u64 (hK r.2), .int .u64 (lK r.2), .bool true, .bool (sK r.2), .string ⟨#[]⟩]) ∧ Plus w w' := c33 _ _ _ _ _ _ w
/-- What impl.Play hands back: the ranges and the prefixes of the set S. -/
def PlyP (w : World) (S : Nat → Prop) (e : Ending) (w' : World) : Prop := ∃ p m c h p' M c' F, e = .returned (.tuple #[.slice p m c, .slice p' M c']) ∧ Hid (Chg (fun _ => False) w w' ∧ Rd layQ w' (.slice p m c) m h ∧ CanonR m h ∧ (∀ k, MemR m h k ↔ S k) ∧ Rd layI w' (.slice p' M c') M F ∧ ChL h m M F ∧ m ≤ 20000000 ∧ M ≤ 257 * m)
set_option maxRecDepth 100000 in
set_option maxHeartbeats 4000000 in
theorem c9 (v0 : Value) (n : Nat) (g : Nat → StepV) (L : Nat → Nat → Nat → Prop) (hL : LimS n g L) (hn : n ≤ 15000000) (hg : ∀ i, i < n → okStep (g i)) (w : World) (H : Rd layS w v0 n g) :
    Calls Tryz.prog 9 #[v0] w (PlyP w (runS g n).1) := by
  obtain ⟨p, c, rfl, q1, q2⟩ := H
  have R1 : Hid (Rd layS w (.slice p n c) n g) := ⟨p, c, rfl, q1, q2⟩
  have HL : Hid _ := hL
  have HG : Hid _ := hg
  clear q2 hL hg
  go_enter Tryz.func9, Tryz.ntmps9

  go_wp2_with fail
  refine (c29 _ n g L HL.out (by omega) HG.out _ (Rd.chg0 R1.out (by (repeat (with_reducible first | exact Chg.refl _ _ | refine Chg.plus ?_ _ _ | refine Chg.alloc ?_ _ | refine Chg.drew ?_))))).mono ?_
  rintro e w1 ⟨P, P', rfl, Z⟩
  obtain ⟨u, m, h, _, _, _, z1, z2, z3, _, _, z4, _, _⟩ := Z.out
  have HC1 : Hid (Chg (fun _ => False) w w1) := z1
  have HS1 : Hid (SetAt w1 P u m h) := z2
  have HM : Hid (∀ k, MemR m h k ↔ (runS g n).1 k) := z3
  clear Z z1 z2 z3 R1 HL HG
  go_wp2_with fail
  refine (c30 P u m h (by omega) _ (SetAt.chg HS1.out (F := fun _ => False) (by (repeat (with_reducible first | exact Chg.refl _ _ | refine Chg.plus ?_ _ _ | refine Chg.alloc ?_ _ | refine Chg.drew ?_))) id (fun _ _ => id))).mono ?_
  rintro e w2 ⟨pr, cr, rfl, Z⟩
  have HC2 : Hid (Chg (fun _ => False) w1 w2) := Chg.trans (by (repeat (with_reducible first | exact Chg.refl _ _ | refine Chg.plus ?_ _ _ | refine Chg.alloc ?_ _ | refine Chg.drew ?_))) Z.out.1
  have HRR : Hid (Rd layR w2 (.slice pr m cr) m h) := Z.out.2.1.rd
  clear Z
  go_wp2_with fail
  go_loopw [6, 17] (fun t6 t17 wr => ∃ (i : Nat) (p0 : Option Addr) (c0 : Nat), t17 = .int .i64 i ∧ t6 = .slice p0 i c0 ∧ i ≤ m ∧ Hid (Chg (fun _ => False) w2 wr ∧ OwnDV layQ 40 wr (.slice p0 i c0) i h ∧ ∀ k, (Value.slice p0 i c0).ownBlock = some k → w2.heap.size ≤ k))
    (fun _ t17 _ => m - (intOf t17).toNat)
  case atStart => exact ⟨0, none, 0, rfl, rfl, Nat.zero_le _, by (repeat (with_reducible first | exact Chg.refl _ _ | refine Chg.plus ?_ _ _ | refine Chg.alloc ?_ _ | refine Chg.drew ?_)), .nil _, fun k e => by simp [Value.ownBlock] at e⟩
  case round =>
    obtain ⟨i, p0, c0, rfl, rfl, hi, X⟩ := hrel
    by_cases hlt : i < m
    · obtain ⟨q, kq, eq, hmk, hrow0⟩ := HRR.out
      simp only [Value.slice.injEq, true_and] at eq
      obtain ⟨e1, e2⟩ := eq
      obtain ⟨G, o, e3, hrow⟩ := hrow0 (by omega)
      clear hrow0
      subst e2 e1 e3
      have ra : wr.rangeAt G (o + i * 10) (rcL (h i)) := rangeAt_chg X.out.1 (hrow i hlt) id
      obtain ⟨ca0, ca1, ca2, ca3, ca4, ca5, ca6, ca7, ca8, ca9⟩ := rc_cells ra
      have hG : G < wr.heap.size := World.block_lt_of_cell? _ _ ca0
      have OK : Hid (okR (h i)) := HS1.out.can.ok i hlt
      have ok1 : okK (h i).1 := OK.out.a
      have ok2 : okK (h i).2 := OK.out.b
      clear hrow ra
      go_upto_region 5 with fail
      go_cut [8] from 18 to 30 (fun t8 wx => t8 = .pointer (some ⟨wr.heap.size, 0, none⟩) ∧ Hid (Chg (fun _ => False) wr wx ∧ wx.rangeAt wr.heap.size 0 (rcL (h i))))
      case first =>
        go_wp2_with fail
        go_meet
        case rel => exact ⟨rfl, by (repeat (with_reducible first | refine Chg.plus ?_ _ _ | refine Chg.alloc ?_ _ | refine Chg.drew ?_ | exact Chg.refl _ _)), rangeAt_new wr _ (h i) rfl⟩
      case rest =>
        obtain ⟨rfl, Z⟩ := hcut
        have HW : Hid (Chg (fun _ => False) wr wc) := Z.out.1
        have hlo : ∀ k, (Value.slice p0 i c0).ownBlock = some k → k < wr.heap.size := fun k e => X.out.2.1.lt e
        have ea : ∀ w', Chg (AtV (.slice p0 i c0)) wc w' → w'.rangeAt wr.heap.size 0 (rcL (h i)) := fun w' q => rangeAt_chg q Z.out.2 (fun e => by have := hlo _ e; omega)
        have ea0 : ∀ w', Chg (AtV (.slice p0 i c0)) wc w' → w'.cell? ⟨wr.heap.size, 0, none⟩ = some (.int .u64 (hK (h i).1)) := fun w' q => (rc_cells (ea w' q)).1
        have ea1 : ∀ w', Chg (AtV (.slice p0 i c0)) wc w' → w'.cell? ⟨wr.heap.size, 1, none⟩ = some (.int .u64 (lK (h i).1)) := fun w' q => (rc_cells (ea w' q)).2.1
        have ea2 : ∀ w', Chg (AtV (.slice p0 i c0)) wc w' → w'.cell? ⟨wr.heap.size, 2, none⟩ = some (.bool true) := fun w' q => (rc_cells (ea w' q)).2.2.1
        have ea3 : ∀ w', Chg (AtV (.slice p0 i c0)) wc w' → w'.cell? ⟨wr.heap.size, 3, none⟩ = some (.bool (sK (h i).1)) := fun w' q => (rc_cells (ea w' q)).2.2.2.1
        have ea4 : ∀ w', Chg (AtV (.slice p0 i c0)) wc w' → w'.cell? ⟨wr.heap.size, 4, none⟩ = some (.string ⟨#[]⟩) := fun w' q => (rc_cells (ea w' q)).2.2.2.2.1
        have ea5 : ∀ w', Chg (AtV (.slice p0 i c0)) wc w' → w'.cell? ⟨wr.heap.size, 5, none⟩ = some (.int .u64 (hK (h i).2)) := fun w' q => (rc_cells (ea w' q)).2.2.2.2.2.1
        have ea6 : ∀ w', Chg (AtV (.slice p0 i c0)) wc w' → w'.cell? ⟨wr.heap.size, 6, none⟩ = some (.int .u64 (lK (h i).2)) := fun w' q => (rc_cells (ea w' q)).2.2.2.2.2.2.1
        have ea7 : ∀ w', Chg (AtV (.slice p0 i c0)) wc w' → w'.cell? ⟨wr.heap.size, 7, none⟩ = some (.bool true) := fun w' q => (rc_cells (ea w' q)).2.2.2.2.2.2.2.1
        have ea8 : ∀ w', Chg (AtV (.slice p0 i c0)) wc w' → w'.cell? ⟨wr.heap.size, 8, none⟩ = some (.bool (sK (h i).2)) := fun w' q => (rc_cells (ea w' q)).2.2.2.2.2.2.2.2.1
        have ea9 : ∀ w', Chg (AtV (.slice p0 i c0)) wc w' → w'.cell? ⟨wr.heap.size, 9, none⟩ = some (.string ⟨#[]⟩) := fun w' q => (rc_cells (ea w' q)).2.2.2.2.2.2.2.2.2
        have hOwn : Hid (OwnDV layQ 40 wc (.slice p0 i c0) i h) := X.out.2.1.chg HW.out (fun _ _ => id)
        clear Z hlo ea ca0 ca1 ca2 ca3 ca4 ca5 ca6 ca7 ca8 ca9 hG
        go_upto_region 6 with fail
        go_region_held3 (fun w' => Chg (AtV (.slice p0 i c0)) wc w') (solve | (with_reducible assumption) | (repeat (with_reducible first | exact Chg.refl _ _ | refine Chg.plus ?_ _ _ | refine Chg.alloc ?_ _ | refine Chg.drew ?_ | assumption)) | (refine Chg.trans ?_ (by with_reducible assumption); repeat (with_reducible first | exact Chg.refl _ _ | refine Chg.plus ?_ _ _ | refine Chg.alloc ?_ _ | refine Chg.drew ?_ | assumption))) (first | (go_at_call 32; (with_reducible refine (k32 (h i) _).mono ?_); rintro e w' ⟨rfl, dd, oo, rfl⟩) | (go_at_call 33; (with_reducible refine (k33 (h i) _).mono ?_); rintro e w' ⟨rfl, dd, oo, rfl⟩) | (go_at_call 31; (with_reducible refine (k31 _ ?_ _).mono ?_); (focus assumption); rintro e w' ⟨rfl, dd, oo, rfl⟩) | (refine stepD rfl _ _ 25 48 infoQ under25 (by omega) rfl (.slice p0 i c0) i h rfl ?hown 1 (fun _ => h i) ?hr ?sz ?_; (case hown => exact OwnDV.chg hOwn.out (F := fun _ => False) (by (repeat (with_reducible first | exact Chg.refl _ _ | refine Chg.plus ?_ _ _ | refine Chg.alloc ?_ _ | refine Chg.drew ?_))) (fun _ _ => id)); (case hr => exact Rd.newAt _ (h i) (by simp) rfl); (case sz => omega); intro p3 c3 w' hO' hC' hat))
        have HZ : Hid (Chg (fun _ => False) w2 w' ∧ OwnDV layQ 40 w' (.slice p3 (i + 1) c3) (i + 1) h ∧ ∀ k, (Value.slice p3 (i + 1) c3).ownBlock = some k → w2.heap.size ≤ k) := by
          refine ⟨Chg.app ((X.out.1.trans HW.out).trans (by (repeat (with_reducible first | exact Chg.refl _ _ | refine Chg.plus ?_ _ _ | refine Chg.alloc ?_ _ | refine Chg.drew ?_)))) hC' X.out.2.2, OwnDV.congr hO'.out (fun j hj => ?_), fun k e => ?_⟩
          · unfold appF
            split
            · rfl
            · rw [show j = i by omega]
          · rcases hat.out with q | q
            · exact X.out.2.2 k (by rw [← q]; exact e)
            · rw [q] at e
              have := X.out.1.size
              have := HW.out.size
              simp at e
              omega
        clear hO' hC' hat ea0 ea1 ea2 ea3 ea4 ea5 ea6 ea7 ea8 ea9
        go_wp2_with fail
        go_roundw
        case rel => exact ⟨i + 1, p3, c3, by go_num, rfl, by omega, HZ.out⟩
        case measure => simp [intOf]; omega
    · obtain rfl : i = m := by omega
      have HS2 : Hid (SetAt wr P u i h) := HS1.out.chg (HC2.out.trans X.out.1) id (fun _ _ => id)
      go_wp2_with fail
      refine (c35 P u i h (by omega) _ HS2.out).mono ?_
      rintro e w4 ⟨p4, M, c4, F, rfl, Z⟩
      have hM : M ≤ 257 * i := Z.out.2.2.2
      have HC4 : Hid (Chg (fun _ => False) wr w4) := Z.out.1
      have HP4 : Hid (Rd layP w4 (.slice p4 M c4) M F) := Z.out.2.1.rd
      have HCL : Hid (ChL h i M F) := Z.out.2.2.1
      clear Z
      go_wp2_with fail
      refine (c34 _ M F (by omega) _ (Rd.chg0 HP4.out (by (repeat (with_reducible first | exact Chg.refl _ _ | refine Chg.plus ?_ _ _ | refine Chg.alloc ?_ _ | refine Chg.drew ?_)))) (fun j hj => HCL.out.ok (fun j hj => HS1.out.can.ok j hj) j hj)).mono ?_
      rintro e w5 ⟨p5, c5, rfl, Z⟩
      have HC5 : Hid (Chg (fun _ => False) w4 w5) := Chg.trans (by (repeat (with_reducible first | exact Chg.refl _ _ | refine Chg.plus ?_ _ _ | refine Chg.alloc ?_ _ | refine Chg.drew ?_))) Z.out.1
      have HI : Hid (Rd layI w5 (.slice p5 M c5) M F) := Z.out.2.rd
      clear Z
      go_wp2_with fail
      go_ret2
      exact ⟨_, i, _, h, _, M, _, F, rfl, ((HC1.out.trans HC2.out).trans (X.out.1.trans HC4.out)).trans HC5.out, X.out.2.1.rd.chg0 (HC4.out.trans HC5.out), HS1.out.can, HM.out, HI.out, HCL.out, by omega, hM⟩
end Go.Proofs.YtmoabfpdlbngeaaGreatDoor
end

section
namespace Go.Proofs.YtmoabfpdlbngeaaGreatDoor
open Go.RowKit
set_option maxHeartbeats 400000
set_option linter.unusedVariables false
set_option linter.unusedSimpArgs false
def sane1 : Nat → StepV := fun _ => ⟨4, (0, 0), 0⟩
theorem okR_00 : okR (0, 0) := ⟨.inl (by decide), .inl (by decide), rfl, Nat.le_refl _⟩
theorem sane_num {m M : Nat} {h F : Nat → Nat × Nat} (C : CanonR m h) (e : ∀ k, MemR m h k ↔ (runS sane1 1).1 k) (K : ChL h m M F) : m = 1 ∧ M = 1 ∧ F 0 = (0, 32) := by
  have o0 : okR (0, 0) := ⟨.inl (by decide), .inl (by decide), rfl, Nat.le_refl _⟩
  obtain ⟨e1, e2⟩ := C.uniq (CanonR.one o0) fun k => by
    rw [e k, MemR_one]
    exact ⟨fun q => q.elim False.elim id, .inr⟩
  subst e1
  have h0 := e2 0 (by omega)
  cases K with
  | snoc H Cv =>
    cases H
    rw [h0] at Cv
    have U := Cv.uniq (ChV.one (A := vK 0) (B := vK 0) (q := 0) (Nat.mod_one _) rfl)
    obtain ⟨e3, e4⟩ := U
    subst e3
    refine ⟨rfl, rfl, ?_⟩
    unfold appF
    rw [if_neg (by omega)]
    show pfV (sK (h 0).1) _ = _
    rw [e4 (0 - 0) (by omega), h0]
    rfl
theorem pi_cells {W : World} {g o : Nat} {a : Nat × Nat} (h : W.rangeAt g o (piL a)) : W.cell? ⟨g, o + 3, none⟩ = some (.int .i64 ((a.2 : Nat) : Int)) := h 3 _ rfl
theorem c14 (w : World) : Calls Tryz.prog 14 #[] w fun e w' => e = .returned (.bool true) ∧ Chg (fun _ => False) w w' := by
  go_enter Tryz.func14, Tryz.ntmps14

  go_wp2_with fail
  refine (c9 _ 1 sane1 Gro (lim40 _ (by omega)) (by omega) (fun i hi => ⟨by show 4 ≤ 10; omega, okR_00, Nat.zero_le _⟩) _ (Rd.newSt ⟨4, (0, 0), 0⟩ rfl rfl)).mono ?_
  rintro e w1 ⟨p, m, c, h, p', M, c', F, rfl, Z⟩
  obtain ⟨z1, z2, z3, z4, z5, z6, _, _⟩ := Z.out
  obtain ⟨rfl, rfl, hF⟩ := sane_num z3 z4 z6
  have HC : Hid (Chg (fun _ => False) w w1) := Chg.trans (by (repeat (with_reducible first | exact Chg.refl _ _ | refine Chg.plus ?_ _ _ | refine Chg.alloc ?_ _ | refine Chg.drew ?_))) z1
  obtain ⟨q, k, eq, hk, hrow0⟩ := z5
  obtain ⟨G, o, e1, hrow⟩ := hrow0 (by omega)
  clear hrow0
  simp only [Value.slice.injEq, true_and] at eq
  obtain ⟨e2, e3⟩ := eq
  subst e3 e2 e1
  have r1 := pi_cells (hrow 0 (by omega))
  rw [hF, Nat.zero_mul, Nat.add_zero] at r1
  have c3 : w1.cell? ⟨G, o + 3, none⟩ = some (.int .i64 32) := r1
  clear Z z1 z2 z3 z4 z6 hF hrow r1
  go_wp2_with fail
  go_ret
  exact ⟨rfl, HC.out⟩
end Go.Proofs.YtmoabfpdlbngeaaGreatDoor
end

section
namespace Go.Proofs.YtmoabfpdlbngeaaGreatDoor
open Go.RowKit
set_option maxHeartbeats 400000
set_option linter.unusedVariables false
set_option linter.unusedSimpArgs false
def backG (h : Nat → Nat × Nat) : Nat → StepV := fun i => ⟨0, h i, 0⟩
theorem back_run (h : Nat → Nat × Nat) (i : Nat) (k : Nat) : (runS (backG h) i).1 k ↔ MemR i h k := by
  induction i with
  | zero => exact ⟨fun q => q.elim, fun q => absurd q (MemR_zero _ _)⟩
  | succ i ih =>
    rw [MemR_succ, ← ih]
    exact Iff.rfl
def TrueP (w : World) (e : Ending) (w' : World) : Prop := e = .returned (.bool true) ∧ Chg (fun _ => False) w w'
set_option maxRecDepth 100000 in
set_option maxHeartbeats 4000000 in
theorem c4 (v1 : Value) (n1 : Nat) (f1 : Nat → Nat) (hn1 : n1 ≤ 140737488355328) (v2 : Value) (n2 : Nat) (f2 : Nat → Nat) (hn2 : n2 ≤ 140737488355328) (w : World) (H1 : Rd layB w v1 n1 f1) (H2 : Rd layB w v2 n2 f2) (b1 : ∀ i, i < n1 → f1 i < 256) (b2 : ∀ i, i < n2 → f2 i < 256) :
    Calls Tryz.prog 4 #[v1, v2] w (TrueP w) := by
  obtain ⟨p1, c1, rfl, q1, q2⟩ := H1
  obtain ⟨p2, c2, rfl, q3, q4⟩ := H2
  have R1 : Hid (Rd layB w (.slice p1 n1 c1) n1 f1) := ⟨p1, c1, rfl, q1, q2⟩
  have R2 : Hid (Rd layB w (.slice p2 n2 c2) n2 f2) := ⟨p2, c2, rfl, q3, q4⟩
  have HB1 : Hid _ := b1
  have HB2 : Hid _ := b2
  clear q2 q4 b1 b2
  by_cases g1 : 2147483647 < n1
  · have z1 : decide (2147483647 < (n1 : Int)) = true := decide_eq_true (by omega)
    go_enter Tryz.func4, Tryz.ntmps4

    go_wp2_with fail
    go_ret
    exact ⟨rfl, by (repeat (with_reducible first | exact Chg.refl _ _ | refine Chg.plus ?_ _ _ | refine Chg.alloc ?_ _ | refine Chg.drew ?_))⟩
  · by_cases g2 : 2147483647 < n2
    · have z1 : decide (2147483647 < (n1 : Int)) = false := decide_eq_false (by omega)
      have z2 : decide (2147483647 < (n2 : Int)) = true := decide_eq_true (by omega)
      go_enter Tryz.func4, Tryz.ntmps4

      go_wp2_with fail
      go_ret
      exact ⟨rfl, by (repeat (with_reducible first | exact Chg.refl _ _ | refine Chg.plus ?_ _ _ | refine Chg.alloc ?_ _ | refine Chg.drew ?_))⟩
    · have z1 : decide (2147483647 < (n1 : Int)) = false := decide_eq_false (by omega)
      have z2 : decide (2147483647 < (n2 : Int)) = false := decide_eq_false (by omega)
      go_enter Tryz.func4, Tryz.ntmps4

      go_wp2_with fail
      refine (c8 _ n1 f1 (by omega) _ (Rd.chg0 R1.out (by (repeat (with_reducible first | exact Chg.refl _ _ | refine Chg.plus ?_ _ _ | refine Chg.alloc ?_ _ | refine Chg.drew ?_)))) HB1.out).mono ?_
      rintro e w1 ⟨ps, ns, cs, gs, rfl, Z⟩
      have HC1 : Hid (Chg (fun _ => False) w w1) := Chg.trans (by (repeat (with_reducible first | exact Chg.refl _ _ | refine Chg.plus ?_ _ _ | refine Chg.alloc ?_ _ | refine Chg.drew ?_))) Z.out.1
      have HS : Hid (Rd layS w1 (.slice ps ns cs) ns gs) := Z.out.2.1
      have hns : ns ≤ 40 := Z.out.2.2.1
      have HGS : Hid (∀ i, i < ns → okStep (gs i)) := Z.out.2.2.2
      clear Z
      go_wp2_with fail
      refine (c8 _ n2 f2 (by omega) _ (Rd.chg0 R2.out (HC1.out.trans (by (repeat (with_reducible first | exact Chg.refl _ _ | refine Chg.plus ?_ _ _ | refine Chg.alloc ?_ _ | refine Chg.drew ?_))))) HB2.out).mono ?_
      rintro e w2 ⟨po, no, co, go, rfl, Z⟩
      have HC2 : Hid (Chg (fun _ => False) w1 w2) := Chg.trans (by (repeat (with_reducible first | exact Chg.refl _ _ | refine Chg.plus ?_ _ _ | refine Chg.alloc ?_ _ | refine Chg.drew ?_))) Z.out.1
      have HS2 : Hid (Rd layS w2 (.slice po no co) no go) := Z.out.2.1
      have hno : no ≤ 40 := Z.out.2.2.1
      have HGO : Hid (∀ i, i < no → okStep (go i)) := Z.out.2.2.2
      clear Z
      go_wp2_with fail
      refine (c10 _ ns gs Gro (lim40 _ hns) (by omega) HGS.out _ (Rd.chg0 HS.out (HC2.out.trans (by (repeat (with_reducible first | exact Chg.refl _ _ | refine Chg.plus ?_ _ _ | refine Chg.alloc ?_ _ | refine Chg.drew ?_)))))).mono ?_
      rintro e w3 ⟨pl, pk, m, K, cl, ck, h, hk, rfl, Z⟩
      have HC3 : Hid (Chg (fun _ => False) w2 w3) := Chg.trans (by (repeat (with_reducible first | exact Chg.refl _ _ | refine Chg.plus ?_ _ _ | refine Chg.alloc ?_ _ | refine Chg.drew ?_))) Z.out.1.chg
      have HL : Hid (Rd layQ w3 (.slice pl m cl) m h) := Z.out.1.rl
      have HCL : Hid (CanonR m h) := Z.out.1.cl
      have HML : Hid (∀ k, MemR m h k ↔ (runS gs ns).1 k) := Z.out.1.ml
      have hm : m ≤ 15000000 := Z.out.2.1
      clear Z
      go_wp2_with fail
      refine (c10 _ no go Gro (lim40 _ hno) (by omega) HGO.out _ (Rd.chg0 HS2.out (HC3.out.trans (by (repeat (with_reducible first | exact Chg.refl _ _ | refine Chg.plus ?_ _ _ | refine Chg.alloc ?_ _ | refine Chg.drew ?_)))))).mono ?_
      rintro e w4 ⟨pl2, pk2, m2, K2, cl2, ck2, h2, hk2, rfl, Z⟩
      have HC4 : Hid (Chg (fun _ => False) w3 w4) := Chg.trans (by (repeat (with_reducible first | exact Chg.refl _ _ | refine Chg.plus ?_ _ _ | refine Chg.alloc ?_ _ | refine Chg.drew ?_))) Z.out.1.chg
      have HL2 : Hid (Rd layQ w4 (.slice pl2 m2 cl2) m2 h2) := Z.out.1.rl
      have HCL2 : Hid (CanonR m2 h2) := Z.out.1.cl
      have HML2 : Hid (∀ k, MemR m2 h2 k ↔ (runS go no).1 k) := Z.out.1.ml
      have hm2 : m2 ≤ 15000000 := Z.out.2.1
      clear Z
      go_wp2_with fail
      go_loopw [11, 38] (fun t11 t38 wr => ∃ (i : Nat) (p0 : Option Addr) (c0 : Nat), t38 = .int .i64 i ∧ t11 = .slice p0 i c0 ∧ i ≤ m ∧ Hid (Chg (fun _ => False) w4 wr ∧ OwnDV layS 42 wr (.slice p0 i c0) i (backG h) ∧ ∀ k, (Value.slice p0 i c0).ownBlock = some k → w4.heap.size ≤ k))
        (fun _ t38 _ => m - (intOf t38).toNat)
      case atStart => exact ⟨0, none, 0, rfl, rfl, Nat.zero_le _, by (repeat (with_reducible first | exact Chg.refl _ _ | refine Chg.plus ?_ _ _ | refine Chg.alloc ?_ _ | refine Chg.drew ?_)), .nil _, fun k e => by simp [Value.ownBlock] at e⟩
      case round =>
        obtain ⟨i, p0, c0, rfl, rfl, hi, X⟩ := hrel
        by_cases hlt : i < m
        · obtain ⟨q, kq, eq, hmk, hrow0⟩ := HL.out
          simp only [Value.slice.injEq, true_and] at eq
          obtain ⟨e1, e2⟩ := eq
          obtain ⟨G, o, e3, hrow⟩ := hrow0 (by omega)
          clear hrow0
          subst e2 e1 e3
          have ra : wr.rangeAt G (o + i * 6) (rqL (h i)) := rangeAt_chg (HC4.out.trans X.out.1) (hrow i hlt) id
          obtain ⟨ca0, ca1, ca2, ca3, ca4, ca5⟩ := rq_cells ra
          have hG : G < wr.heap.size := World.block_lt_of_cell? _ _ ca0
          clear hrow ra
          go_wp2_with (at_builtin; refine appD rfl (.tmp 42) (.tmp 45) 23 64 infoS under23 (by omega) rfl (.slice p0 i c0) i (backG h) rfl (OwnDV.chg X.out.2.1 (F := fun _ => False) (by (repeat (with_reducible first | exact Chg.refl _ _ | refine Chg.plus ?_ _ _ | refine Chg.alloc ?_ _ | refine Chg.drew ?_))) (fun _ _ => id)) 1 (fun _ => ⟨0, h i, 0⟩) (Rd.newSt ⟨0, h i, 0⟩ (by simp) rfl) (by omega) ?_; intro p3 c3 w' hO' hC' hat)
          have HZ : Hid (Chg (fun _ => False) w4 w' ∧ OwnDV layS 42 w' (.slice p3 (i + 1) c3) (i + 1) (backG h) ∧ ∀ k, (Value.slice p3 (i + 1) c3).ownBlock = some k → w4.heap.size ≤ k) := by
            refine ⟨Chg.app (X.out.1.trans (by (repeat (with_reducible first | exact Chg.refl _ _ | refine Chg.plus ?_ _ _ | refine Chg.alloc ?_ _ | refine Chg.drew ?_)))) hC' X.out.2.2, OwnDV.congr hO'.out (fun j hj => ?_), fun k e => ?_⟩
            · unfold appF
              split
              · rfl
              · rw [show j = i by omega]; rfl
            · rcases hat.out with q | q
              · exact X.out.2.2 k (by rw [← q]; exact e)
              · rw [q] at e
                have := X.out.1.size
                simp at e
                omega
          clear hO' hC' hat ca0 ca1 ca2 ca3 ca4 ca5
          go_wp2_with fail
          go_roundw
          case rel => exact ⟨i + 1, p3, c3, by go_num, rfl, by omega, HZ.out⟩
          case measure => simp [intOf]; omega
        · obtain rfl : i = m := by omega
          have HQ : Hid (Chg (fun _ => False) w2 wr) := (HC3.out.trans HC4.out).trans X.out.1
          have HBK : Hid (Rd layS wr (.slice p0 i c0) i (backG h)) := X.out.2.1.rd
          have HTOT : Hid (Chg (fun _ => False) w wr) := (HC1.out.trans HC2.out).trans HQ.out
          have HLr : Hid (Rd layQ wr (.slice pl i cl) i h) := HL.out.chg0 (HC4.out.trans X.out.1)
          have HLr2 : Hid (Rd layQ wr (.slice pl2 m2 cl2) m2 h2) := HL2.out.chg0 X.out.1
          clear X
          go_wp2_with fail
          refine (c15 _ ns gs Gro (lim40 _ hns) (by omega) HGS.out _ no go Gro (lim40 _ hno) (by omega) HGO.out _ (Rd.chg0 HS.out (HC2.out.trans (HQ.out.trans (by (repeat (with_reducible first | exact Chg.refl _ _ | refine Chg.plus ?_ _ _ | refine Chg.alloc ?_ _ | refine Chg.drew ?_)))))) (Rd.chg0 HS2.out (HQ.out.trans (by (repeat (with_reducible first | exact Chg.refl _ _ | refine Chg.plus ?_ _ _ | refine Chg.alloc ?_ _ | refine Chg.drew ?_)))))).mono ?_
          rintro e w6 ⟨bb, rfl, Z⟩
          have HC6 : Hid (Chg (fun _ => False) wr w6) := Chg.trans (by (repeat (with_reducible first | exact Chg.refl _ _ | refine Chg.plus ?_ _ _ | refine Chg.alloc ?_ _ | refine Chg.drew ?_))) Z.out.1
          have HQ1 : Hid (bb = true ↔ ∀ k, (runS gs ns).1 k ↔ (runS go no).1 k) := Z.out.2
          clear Z
          go_wp2_with fail
          refine (c11 _ _ i m2 h h2 (by omega) (by omega) _ (Rd.chg0 HLr.out (HC6.out.trans (by (repeat (with_reducible first | exact Chg.refl _ _ | refine Chg.plus ?_ _ _ | refine Chg.alloc ?_ _ | refine Chg.drew ?_))))) (Rd.chg0 HLr2.out (HC6.out.trans (by (repeat (with_reducible first | exact Chg.refl _ _ | refine Chg.plus ?_ _ _ | refine Chg.alloc ?_ _ | refine Chg.drew ?_))))) (fun j hj => HCL.out.ok j hj) (fun j hj => HCL2.out.ok j hj)).mono ?_
          rintro e w7 Z
          obtain ⟨b2, rfl, Y⟩ := EqP.bool Z (canon_iff HCL.out HCL2.out HML.out HML2.out)
          have HC7 : Hid (Chg (fun _ => False) w6 w7) := Chg.trans (by (repeat (with_reducible first | exact Chg.refl _ _ | refine Chg.plus ?_ _ _ | refine Chg.alloc ?_ _ | refine Chg.drew ?_))) Y.out.1
          have hbb : b2 = bb := by
            have h1 := HQ1.out
            have h2 := Y.out.2
            cases b2 <;> cases bb <;> simp_all
          subst hbb
          clear Z Y HQ1
          cases b2
          all_goals
            go_wp2_with fail
            refine (c15 _ ns gs Gro (lim40 _ hns) (by omega) HGS.out _ i (backG h) _ (limAdd _ hm (fun _ _ => rfl)) (by omega) (fun j hj => ⟨Nat.zero_le _, HCL.out.ok j hj, Nat.zero_le _⟩) _ (Rd.chg0 HS.out (HC2.out.trans (HQ.out.trans (HC6.out.trans (HC7.out.trans (by (repeat (with_reducible first | exact Chg.refl _ _ | refine Chg.plus ?_ _ _ | refine Chg.alloc ?_ _ | refine Chg.drew ?_)))))))) (Rd.chg0 HBK.out (HC6.out.trans (HC7.out.trans (by (repeat (with_reducible first | exact Chg.refl _ _ | refine Chg.plus ?_ _ _ | refine Chg.alloc ?_ _ | refine Chg.drew ?_))))))).mono ?_
            rintro e w8 ⟨b3, rfl, Z⟩
            have hb3 : b3 = true := Z.out.2.2 fun k => by rw [back_run, HML.out k]
            subst hb3
            have HC8 : Hid (Chg (fun _ => False) w7 w8) := Chg.trans (by (repeat (with_reducible first | exact Chg.refl _ _ | refine Chg.plus ?_ _ _ | refine Chg.alloc ?_ _ | refine Chg.drew ?_))) Z.out.1
            clear Z
            go_wp2_with fail
            refine (c14 _).mono ?_
            rintro e w9 ⟨rfl, Z⟩
            have HC9 : Hid (Chg (fun _ => False) w8 w9) := Chg.trans (by (repeat (with_reducible first | exact Chg.refl _ _ | refine Chg.plus ?_ _ _ | refine Chg.alloc ?_ _ | refine Chg.drew ?_))) Z
            clear Z
            go_wp2_with fail
            go_ret
            exact ⟨rfl, ((HTOT.out.trans HC6.out).trans (HC7.out.trans HC8.out)).trans HC9.out⟩
end Go.Proofs.YtmoabfpdlbngeaaGreatDoor
end
