/-
  Part of the proofs on the laws of pub-addresssets: joined texts (R4).
-/
import Derived.Test.YtmoabfpdlbngeaaGreatDoorVR3
section
namespace Go.Proofs.YtmoabfpdlbngeaaGreatDoor
open Go.RowKit
set_option maxHeartbeats 400000
set_option linter.unusedVariables false
set_option linter.unusedSimpArgs false
set_option maxRecDepth 100000 in
set_option maxHeartbeats 4000000 in
/-- FnScriptWhole returns true. -/
theorem c3 (v1 : Value) (n1 : Nat) (f1 : Nat → Nat) (hn1 : n1 ≤ 140737488355328) (w : World) (H1 : Rd layB w v1 n1 f1) (b1 : ∀ i, i < n1 → f1 i < 256) :
    Calls Tryz.prog 3 #[v1] w (TrueP w) := by
  obtain ⟨p1, c1, rfl, q1, q2⟩ := H1
  have R1 : Hid (Rd layB w (.slice p1 n1 c1) n1 f1) := ⟨p1, c1, rfl, q1, q2⟩
  have HB1 : Hid _ := b1
  clear q2 b1
  by_cases g1 : 2147483647 < n1
  · have z1 : decide (2147483647 < (n1 : Int)) = true := decide_eq_true (by omega)
    go_enter Tryz.func3, Tryz.ntmps3

    go_wp2_with fail
    go_ret
    exact ⟨rfl, by (repeat (with_reducible first | exact Chg.refl _ _ | refine Chg.plus ?_ _ _ | refine Chg.alloc ?_ _ | refine Chg.drew ?_))⟩
  · have z1 : decide (2147483647 < (n1 : Int)) = false := decide_eq_false (by omega)
    go_enter Tryz.func3, Tryz.ntmps3

    go_wp2_with fail
    refine (c8 _ n1 f1 (by omega) _ (Rd.chg0 R1.out (by (repeat (with_reducible first | exact Chg.refl _ _ | refine Chg.plus ?_ _ _ | refine Chg.alloc ?_ _ | refine Chg.drew ?_)))) HB1.out).mono ?_
    rintro e w1 ⟨ps, ns, cs, gs, rfl, Z⟩
    have HC1 : Hid (Chg (fun _ => False) w w1) := Chg.trans (by (repeat (with_reducible first | exact Chg.refl _ _ | refine Chg.plus ?_ _ _ | refine Chg.alloc ?_ _ | refine Chg.drew ?_))) Z.out.1
    have HS : Hid (Rd layS w1 (.slice ps ns cs) ns gs) := Z.out.2.1
    have hns : ns ≤ 40 := Z.out.2.2.1
    have HGS : Hid (∀ i, i < ns → okStep (gs i)) := Z.out.2.2.2
    clear Z
    go_wp2_with fail
    refine (c9 _ ns gs Gro (lim40 _ hns) (by omega) HGS.out _ (Rd.chg0 HS.out (by (repeat (with_reducible first | exact Chg.refl _ _ | refine Chg.plus ?_ _ _ | refine Chg.alloc ?_ _ | refine Chg.drew ?_))))).mono ?_
    rintro e w2 ⟨pl, m, cl, h, pf, M, cf, F, rfl, Z⟩
    have HC2 : Hid (Chg (fun _ => False) w1 w2) := Chg.trans (by (repeat (with_reducible first | exact Chg.refl _ _ | refine Chg.plus ?_ _ _ | refine Chg.alloc ?_ _ | refine Chg.drew ?_))) Z.out.1
    have HL : Hid (Rd layQ w2 (.slice pl m cl) m h) := Z.out.2.1
    have HCL : Hid (CanonR m h) := Z.out.2.2.1
    have HML : Hid (∀ k, MemR m h k ↔ (runS gs ns).1 k) := Z.out.2.2.2.1
    have HF : Hid (Rd layI w2 (.slice pf M cf) M F) := Z.out.2.2.2.2.1
    have HCh : Hid (ChL h m M F) := Z.out.2.2.2.2.2.1
    have hm : m ≤ 20000000 := Z.out.2.2.2.2.2.2.1
    have hM : M ≤ 257 * m := Z.out.2.2.2.2.2.2.2
    clear Z
    go_wp2_with fail
    refine (c10 _ ns gs Gro (lim40 _ hns) (by omega) HGS.out _ (Rd.chg0 HS.out (HC2.out.trans (by (repeat (with_reducible first | exact Chg.refl _ _ | refine Chg.plus ?_ _ _ | refine Chg.alloc ?_ _ | refine Chg.drew ?_)))))).mono ?_
    rintro e w3 ⟨pl2, pk2, m2, K2, cl2, ck2, h2, hk2, rfl, Z⟩
    have HC3 : Hid (Chg (fun _ => False) w2 w3) := Chg.trans (by (repeat (with_reducible first | exact Chg.refl _ _ | refine Chg.plus ?_ _ _ | refine Chg.alloc ?_ _ | refine Chg.drew ?_))) Z.out.1.chg
    have HL2 : Hid (Rd layQ w3 (.slice pl2 m2 cl2) m2 h2) := Z.out.1.rl
    have HCL2 : Hid (CanonR m2 h2) := Z.out.1.cl
    have HML2 : Hid (∀ k, MemR m2 h2 k ↔ (runS gs ns).1 k) := Z.out.1.ml
    have hm2 : m2 ≤ 15000000 := Z.out.2.1
    have HEQ : Hid (m = m2 ∧ ∀ i, i < m → h i = h2 i) := (canon_iff HCL.out HCL2.out HML.out HML2.out).2 (fun k => Iff.rfl)
    clear Z
    go_wp2_with fail
    refine (c11 _ _ m m2 h h2 (by omega) (by omega) _ (Rd.chg0 HL.out (HC3.out.trans (by (repeat (with_reducible first | exact Chg.refl _ _ | refine Chg.plus ?_ _ _ | refine Chg.alloc ?_ _ | refine Chg.drew ?_))))) (Rd.chg0 HL2.out (by (repeat (with_reducible first | exact Chg.refl _ _ | refine Chg.plus ?_ _ _ | refine Chg.alloc ?_ _ | refine Chg.drew ?_)))) (fun j hj => HCL.out.ok j hj) (fun j hj => HCL2.out.ok j hj)).mono ?_
    rintro e w4 ⟨b2, rfl, Z⟩
    have HC4 : Hid (Chg (fun _ => False) w3 w4) := Chg.trans (by (repeat (with_reducible first | exact Chg.refl _ _ | refine Chg.plus ?_ _ _ | refine Chg.alloc ?_ _ | refine Chg.drew ?_))) Z.out.1
    have hb2 : b2 = true := Z.out.2.2 HEQ.out
    subst hb2
    clear Z
    go_wp2_with fail
    refine (c13 _ m2 h2 (by omega) _ (Rd.chg0 HL2.out (HC4.out.trans (by (repeat (with_reducible first | exact Chg.refl _ _ | refine Chg.plus ?_ _ _ | refine Chg.alloc ?_ _ | refine Chg.drew ?_))))) (fun j hj => HCL2.out.ok j hj)).mono ?_
    rintro e w5 ⟨pf2, M2, cf2, F2, rfl, Z⟩
    have HC5 : Hid (Chg (fun _ => False) w4 w5) := Chg.trans (by (repeat (with_reducible first | exact Chg.refl _ _ | refine Chg.plus ?_ _ _ | refine Chg.alloc ?_ _ | refine Chg.drew ?_))) Z.out.1
    have HF2 : Hid (Rd layI w5 (.slice pf2 M2 cf2) M2 F2) := Z.out.2.1
    have HEF : Hid (M = M2 ∧ ∀ j, j < M → F j = F2 j) := by
      obtain ⟨e1, e2⟩ := HEQ.out
      have C2 := Z.out.2.2.1
      rw [← e1] at C2
      exact (HCh.out.congr e2).uniq C2
    clear Z
    obtain ⟨e1, e2⟩ := HEF.out
    subst e1
    have HE2 : Hid _ := e2
    clear e2
    go_wp2_with fail
    refine (c12 _ _ M F F2 (by omega) _ (Rd.chg0 HF.out (HC3.out.trans (HC4.out.trans (HC5.out.trans (by (repeat (with_reducible first | exact Chg.refl _ _ | refine Chg.plus ?_ _ _ | refine Chg.alloc ?_ _ | refine Chg.drew ?_))))))) (Rd.chg0 HF2.out (by (repeat (with_reducible first | exact Chg.refl _ _ | refine Chg.plus ?_ _ _ | refine Chg.alloc ?_ _ | refine Chg.drew ?_)))) HE2.out).mono ?_
    rintro e w6 ⟨rfl, Z⟩
    have HC6 : Hid (Chg (fun _ => False) w5 w6) := Chg.trans (by (repeat (with_reducible first | exact Chg.refl _ _ | refine Chg.plus ?_ _ _ | refine Chg.alloc ?_ _ | refine Chg.drew ?_))) Z
    clear Z
    go_wp2_with fail
    refine (c14 _).mono ?_
    rintro e w7 ⟨rfl, Z⟩
    have HC7 : Hid (Chg (fun _ => False) w6 w7) := Chg.trans (by (repeat (with_reducible first | exact Chg.refl _ _ | refine Chg.plus ?_ _ _ | refine Chg.alloc ?_ _ | refine Chg.drew ?_))) Z
    clear Z
    go_wp2_with fail
    go_ret
    exact ⟨rfl, (((HC1.out.trans HC2.out).trans (HC3.out.trans HC4.out)).trans (HC5.out.trans HC6.out)).trans HC7.out⟩
end Go.Proofs.YtmoabfpdlbngeaaGreatDoor
end
