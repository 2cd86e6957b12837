/-
  Part of the proofs on the laws of pub-addresssets: joined texts (SJ, SK).
-/
import Derived.Test.YtmoabfpdlbngeaaGreatDoorVC10
import Derived.Test.YtmoabfpdlbngeaaGreatDoorVC29
import Derived.Test.YtmoabfpdlbngeaaGreatDoorVSI
section
namespace Go.Proofs.YtmoabfpdlbngeaaGreatDoor
open Go.RowKit
set_option maxHeartbeats 400000
set_option linter.unusedVariables false
set_option linter.unusedSimpArgs false
theorem neq80 (a b : Nat × Nat) (oa : okR a) (ob : okR b) (x : Bool) (hx : decide (a = b) = x) (w : World) : (binOp .neq 80 (.agg #[.int .u64 (hK a.1), .int .u64 (lK a.1), .bool true, .bool (sK a.1), .string ⟨#[]⟩, .int .u64 (hK a.2), .int .u64 (lK a.2), .bool true, .bool (sK a.2), .string ⟨#[]⟩]) (.agg #[.int .u64 (hK b.1), .int .u64 (lK b.1), .bool true, .bool (sK b.1), .string ⟨#[]⟩, .int .u64 (hK b.2), .int .u64 (lK b.2), .bool true, .bool (sK b.2), .string ⟨#[]⟩])).run Tryz.prog w = .ok (.bool (!x)) w := by
  rw [← hx]
  by_cases e : a = b
  · subst e
    simp [go_sem]
  · rw [decide_eq_false e]
    by_cases h0 : hK a.1 = hK b.1
    · by_cases h1 : lK a.1 = lK b.1
      · by_cases h2 : sK a.1 = sK b.1
        · by_cases h3 : hK a.2 = hK b.2
          · by_cases h4 : lK a.2 = lK b.2
            · by_cases h5 : sK a.2 = sK b.2
              · exact absurd (Prod.ext (injK _ _ oa.a ob.a h0 h1 h2) (injK _ _ oa.b ob.b h3 h4 h5)) e
              · simp [go_sem, h0, h1, h2, h3, h4, h5]
            · simp [go_sem, h0, h1, h2, h3, h4]
          · simp [go_sem, h0, h1, h2, h3]
        · simp [go_sem, h0, h1, h2]
      · simp [go_sem, h0, h1]
    · simp [go_sem, h0]
theorem neq40 (a b : Nat × Nat) (oa : okR a) (ob : okR b) (x : Bool) (hx : decide (a = b) = x) (w : World) : (binOp .neq 40 (.agg #[.bool (sK a.1), .int .u64 (hK a.1), .int .u64 (mK a.1), .bool (sK a.2), .int .u64 (hK a.2), .int .u64 (mK a.2)]) (.agg #[.bool (sK b.1), .int .u64 (hK b.1), .int .u64 (mK b.1), .bool (sK b.2), .int .u64 (hK b.2), .int .u64 (mK b.2)])).run Tryz.prog w = .ok (.bool (!x)) w := by
  rw [← hx]
  by_cases e : a = b
  · subst e
    simp [go_sem]
  · rw [decide_eq_false e]
    by_cases h0 : sK a.1 = sK b.1
    · by_cases h1 : hK a.1 = hK b.1
      · by_cases h2 : mK a.1 = mK b.1
        · by_cases h3 : sK a.2 = sK b.2
          · by_cases h4 : hK a.2 = hK b.2
            · by_cases h5 : mK a.2 = mK b.2
              · exact absurd (Prod.ext (injS _ _ oa.a ob.a h0 h1 h2) (injS _ _ oa.b ob.b h3 h4 h5)) e
              · simp [go_sem, h0, h1, h2, h3, h4, h5]
            · simp [go_sem, h0, h1, h2, h3, h4]
          · simp [go_sem, h0, h1, h2, h3]
        · simp [go_sem, h0, h1, h2]
      · simp [go_sem, h0, h1]
    · simp [go_sem, h0]
/-- Two lists told apart. -/
def EqP (w : World) (m m' : Nat) (h h' : Nat → Nat × Nat) (e : Ending) (w' : World) : Prop := ∃ b, e = .returned (.bool b) ∧ Hid (Chg (fun _ => False) w w' ∧ (b = true ↔ (m = m' ∧ ∀ i, i < m → h i = h' i)))
theorem EqP.no {w w' : World} {m m' : Nat} {h h' : Nat → Nat × Nat} (C : Chg (fun _ => False) w w') (hn : ¬ (m = m' ∧ ∀ i, i < m → h i = h' i)) : EqP w m m' h h' (.returned (.bool false)) w' := ⟨false, rfl, C, fun q => by simp at q, fun q => absurd q hn⟩
theorem EqP.yes {w w' : World} {m m' : Nat} {h h' : Nat → Nat × Nat} (C : Chg (fun _ => False) w w') (hy : m = m' ∧ ∀ i, i < m → h i = h' i) : EqP w m m' h h' (.returned (.bool true)) w' := ⟨true, rfl, C, fun _ => hy, fun _ => rfl⟩
set_option maxHeartbeats 2000000 in
theorem c41 (P P' : Nat) (v v' : Value) (m m' : Nat) (h h' : Nat → Nat × Nat) (hm : m ≤ 40000000) (hm' : m' ≤ 40000000) (w : World) (K : SetAt w P v m h) (K' : SetAt w P' v' m' h') :
    Calls Tryz.prog 41 #[.pointer (some ⟨P, 0, none⟩), .pointer (some ⟨P', 0, none⟩)] w (EqP w m m' h h') := by
  obtain ⟨p, c, rfl⟩ := K.own.form
  obtain ⟨p', c', rfl⟩ := K'.own.form
  have HK : Hid _ := K
  have HK' : Hid _ := K'
  have cP := K.cell
  have cP' := K'.cell
  have hP := K.lt
  have hP' := K'.lt
  clear K K'
  by_cases hmm : m = m'
  · subst hmm
    have q1 : ((m : Int) != (m : Int)) = false := by simp
    go_enter Tryz.func41, Tryz.ntmps41

    go_wp2_with fail
    refine wp_region_plus (by kernel_rfl) (by kernel_rfl) ?_
    repeat (go_big_quiet_step (fail))
    refine wpQuiet_nil ?_
    intro _ hq
    obtain ⟨⟨dq, oq⟩, rfl⟩ := hq
    go_wp2_with fail
    go_loopw [22] (fun t22 wr => ∃ i : Nat, t22 = .int .i64 i ∧ i ≤ m ∧ Hid (Chg (fun _ => False) w wr ∧ ∀ j, j < i → h j = h' j))
      (fun t22 _ => m - (intOf t22).toNat)
    case atStart => exact ⟨0, rfl, Nat.zero_le _, by (repeat (with_reducible first | exact Chg.refl _ _ | refine Chg.plus ?_ _ _ | refine Chg.alloc ?_ _ | refine Chg.drew ?_)), fun j hj => by omega⟩
    case round =>
      clear cP cP' hP hP'
      obtain ⟨i, rfl, hi, X⟩ := hrel
      have hP : P < wr.heap.size := (HK.out.chg X.out.1 id (fun _ _ => id)).lt
      have hP' : P' < wr.heap.size := (HK'.out.chg X.out.1 id (fun _ _ => id)).lt
      have cP : wr.cell? ⟨P, 0, none⟩ = some (.slice p m c) := (HK.out.chg X.out.1 id (fun _ _ => id)).cell
      have cP' : wr.cell? ⟨P', 0, none⟩ = some (.slice p' m c') := (HK'.out.chg X.out.1 id (fun _ _ => id)).cell
      by_cases hlt : i < m
      · have rows : ∀ (q : Option Addr) (d : Nat) (hh : Nat → Nat × Nat), OwnV wr (.slice q m d) m hh → ∃ G, q = some ⟨G, 0, none⟩ ∧ wr.rangeAt G (i * 10) (rcL (hh i)) ∧ m ≤ d := fun q d hh H => by
          rcases H with ⟨_, z⟩ | ⟨G, cap, e, H⟩
          · omega
          · simp only [Value.slice.injEq, true_and] at e
            have := H.row i hlt
            rw [Nat.zero_add] at this
            exact ⟨G, e.1, this, by rw [e.2]; exact H.le⟩
        obtain ⟨G, rfl, ra, la⟩ := rows p c h (HK.out.own.chg X.out.1 (fun _ _ => id))
        obtain ⟨G', rfl, rb, lb⟩ := rows p' c' h' (HK'.out.own.chg X.out.1 (fun _ _ => id))
        obtain ⟨ca0, ca1, ca2, ca3, ca4, ca5, ca6, ca7, ca8, ca9⟩ := rc_cells ra
        obtain ⟨cb0, cb1, cb2, cb3, cb4, cb5, cb6, cb7, cb8, cb9⟩ := rc_cells rb
        have oa : okR (h i) := HK.out.can.ok i hlt
        have ob : okR (h' i) := HK'.out.can.ok i hlt
        have hG : G < wr.heap.size := World.block_lt_of_cell? _ _ ca0
        have hG' : G' < wr.heap.size := World.block_lt_of_cell? _ _ cb0
        have zi : (i : Int) < (m : Int) := by omega
        have zi0 : (0 : Int) ≤ (i : Int) := by omega
        clear rows ra rb
        by_cases hE : h i = h' i
        · have hne := fun w => neq80 (h i) (h' i) oa ob true (decide_eq_true hE) w
          have HE : Hid _ := hE
          clear hE oa ob
          go_wp2_with fail
          refine wp_region_plus (by kernel_rfl) (by kernel_rfl) ?_
          repeat (go_big_quiet_step (fail))
          refine wpQuiet_nil ?_
          intro _ hq
          obtain ⟨⟨dq, oq⟩, rfl⟩ := hq
          go_wp2_with fail
          go_roundw
          case rel => exact ⟨i + 1, by go_num, by omega, X.out.1.plus _ _, fun j hj => by
            by_cases e : j = i
            · subst e; exact HE.out
            · exact X.out.2 j (by omega)⟩
          case measure => simp [intOf]; omega
        · have hne := fun w => neq80 (h i) (h' i) oa ob false (decide_eq_false hE) w
          have HE : Hid _ := hE
          clear hE oa ob
          go_wp2_with fail
          refine wp_region_plus (by kernel_rfl) (by kernel_rfl) ?_
          repeat (go_big_quiet_step (fail))
          refine wpQuiet_nil ?_
          intro _ hq
          obtain ⟨⟨dq, oq⟩, rfl⟩ := hq
          go_wp2_with fail
          go_ret
          exact .no (X.out.1.plus _ _) (fun q => HE.out (q.2 i hlt))
      · obtain rfl : i = m := by omega
        go_wp2_with fail
        go_ret
        exact .yes X.out.1 ⟨rfl, X.out.2⟩
  · have q1 : ((m : Int) != (m' : Int)) = true := by rw [bne_iff_ne]; omega
    have q2 : ((m : Int) == (m' : Int)) = false := by rw [beq_eq_false_iff_ne]; omega
    have HM : Hid _ := hmm
    clear hmm
    go_enter Tryz.func41, Tryz.ntmps41

    go_wp2_with fail
    refine wp_region_plus (by kernel_rfl) (by kernel_rfl) ?_
    repeat (go_big_quiet_step (fail))
    refine wpQuiet_nil ?_
    intro _ hq
    obtain ⟨⟨dq, oq⟩, rfl⟩ := hq
    go_wp2_with fail
    go_ret
    exact .no (by (repeat (with_reducible first | exact Chg.refl _ _ | refine Chg.plus ?_ _ _ | refine Chg.alloc ?_ _ | refine Chg.drew ?_))) (fun q => HM.out q.1)
set_option maxHeartbeats 2000000 in
theorem c11 (v v' : Value) (m m' : Nat) (h h' : Nat → Nat × Nat) (hm : m ≤ 40000000) (hm' : m' ≤ 40000000) (w : World) (K : Rd layQ w v m h) (K' : Rd layQ w v' m' h') (oh : ∀ i, i < m → okR (h i)) (oh' : ∀ i, i < m' → okR (h' i)) :
    Calls Tryz.prog 11 #[v, v'] w (EqP w m m' h h') := by
  obtain ⟨p, c, rfl, l1, r1⟩ := K
  obtain ⟨p', c', rfl, l2, r2⟩ := K'
  have HK : Hid _ := r1
  have HK' : Hid _ := r2
  have HO : Hid _ := oh
  have HO' : Hid _ := oh'
  clear r1 r2 oh oh'
  by_cases hmm : m = m'
  · subst hmm
    have q1 : ((m : Int) != (m : Int)) = false := by simp
    go_enter Tryz.func11, Tryz.ntmps11

    go_wp2_with fail
    go_loopw [13] (fun t13 wr => ∃ i : Nat, t13 = .int .i64 i ∧ i ≤ m ∧ Hid (Chg (fun _ => False) w wr ∧ ∀ j, j < i → h j = h' j))
      (fun t13 _ => m - (intOf t13).toNat)
    case atStart => exact ⟨0, rfl, Nat.zero_le _, by (repeat (with_reducible first | exact Chg.refl _ _ | refine Chg.plus ?_ _ _ | refine Chg.alloc ?_ _ | refine Chg.drew ?_)), fun j hj => by omega⟩
    case round =>
      obtain ⟨i, rfl, hi, X⟩ := hrel
      by_cases hlt : i < m
      · obtain ⟨G, o, rfl, ra⟩ := HK.out (by omega)
        obtain ⟨G', o', rfl, rb⟩ := HK'.out (by omega)
        have ra' : wr.rangeAt G (o + i * 6) (rqL (h i)) := rangeAt_chg X.out.1 (ra i hlt) id
        have rb' : wr.rangeAt G' (o' + i * 6) (rqL (h' i)) := rangeAt_chg X.out.1 (rb i hlt) id
        obtain ⟨ca0, ca1, ca2, ca3, ca4, ca5⟩ := rq_cells ra'
        obtain ⟨cb0, cb1, cb2, cb3, cb4, cb5⟩ := rq_cells rb'
        have oa : okR (h i) := HO.out i hlt
        have ob : okR (h' i) := HO'.out i hlt
        have hG : G < wr.heap.size := World.block_lt_of_cell? _ _ ca0
        have hG' : G' < wr.heap.size := World.block_lt_of_cell? _ _ cb0
        have zi : (i : Int) < (m : Int) := by omega
        have zi0 : (0 : Int) ≤ (i : Int) := by omega
        clear ra rb ra' rb'
        by_cases hE : h i = h' i
        · have hne := fun w => neq40 (h i) (h' i) oa ob true (decide_eq_true hE) w
          have HE : Hid _ := hE
          clear hE oa ob
          go_wp2_with fail
          refine wp_region_plus (by kernel_rfl) (by kernel_rfl) ?_
          repeat (go_big_quiet_step (fail))
          refine wpQuiet_nil ?_
          intro _ hq
          obtain ⟨⟨dq, oq⟩, rfl⟩ := hq
          go_wp2_with fail
          go_roundw
          case rel => exact ⟨i + 1, by go_num, by omega, X.out.1.plus _ _, fun j hj => by
            by_cases e : j = i
            · subst e; exact HE.out
            · exact X.out.2 j (by omega)⟩
          case measure => simp [intOf]; omega
        · have hne := fun w => neq40 (h i) (h' i) oa ob false (decide_eq_false hE) w
          have HE : Hid _ := hE
          clear hE oa ob
          go_wp2_with fail
          refine wp_region_plus (by kernel_rfl) (by kernel_rfl) ?_
          repeat (go_big_quiet_step (fail))
          refine wpQuiet_nil ?_
          intro _ hq
          obtain ⟨⟨dq, oq⟩, rfl⟩ := hq
          go_wp2_with fail
          go_ret
          exact .no (X.out.1.plus _ _) (fun q => HE.out (q.2 i hlt))
      · obtain rfl : i = m := by omega
        go_wp2_with fail
        go_ret
        exact .yes X.out.1 ⟨rfl, X.out.2⟩
  · have q1 : ((m : Int) != (m' : Int)) = true := by rw [bne_iff_ne]; omega
    have q2 : ((m : Int) == (m' : Int)) = false := by rw [beq_eq_false_iff_ne]; omega
    have HM : Hid _ := hmm
    clear hmm
    go_enter Tryz.func11, Tryz.ntmps11

    go_wp2_with fail
    go_ret
    exact .no (by (repeat (with_reducible first | exact Chg.refl _ _ | refine Chg.plus ?_ _ _ | refine Chg.alloc ?_ _ | refine Chg.drew ?_))) (fun q => HM.out q.1)
end Go.Proofs.YtmoabfpdlbngeaaGreatDoor
end

section
namespace Go.Proofs.YtmoabfpdlbngeaaGreatDoor
open Go.RowKit
set_option maxHeartbeats 400000
set_option linter.unusedVariables false
set_option linter.unusedSimpArgs false
/-- A truth value that tells whether Q. -/
def BoolP (w : World) (Q : Prop) (e : Ending) (w' : World) : Prop := ∃ b, e = .returned (.bool b) ∧ Hid (Chg (fun _ => False) w w' ∧ (b = true ↔ Q))
theorem canon_iff {m m' : Nat} {h h' : Nat → Nat × Nat} {S S' : Nat → Prop} (C : CanonR m h) (C' : CanonR m' h') (e : ∀ k, MemR m h k ↔ S k) (e' : ∀ k, MemR m' h' k ↔ S' k) : (m = m' ∧ ∀ i, i < m → h i = h' i) ↔ ∀ k, S k ↔ S' k := by
  constructor
  · rintro ⟨rfl, q⟩ k
    rw [← e k, ← e' k]
    exact MemR_congr q k
  · intro q
    exact C.uniq C' fun k => (e k).trans ((q k).trans (e' k).symm)
theorem EqP.bool {w w' : World} {m m' : Nat} {h h' : Nat → Nat × Nat} {e : Ending} {Q : Prop} (H : EqP w m m' h h' e w') (q : (m = m' ∧ ∀ i, i < m → h i = h' i) ↔ Q) : BoolP w Q e w' := by
  obtain ⟨b, a, Z⟩ := H
  exact ⟨b, a, Z.out.1, Z.out.2.trans q⟩
/-- impl.Same. -/
theorem c15 (v1 : Value) (n1 : Nat) (g1 : Nat → StepV) (L1 : Nat → Nat → Nat → Prop) (hL1 : LimS n1 g1 L1) (hn1 : n1 ≤ 15000000) (hg1 : ∀ i, i < n1 → okStep (g1 i)) (v2 : Value) (n2 : Nat) (g2 : Nat → StepV) (L2 : Nat → Nat → Nat → Prop) (hL2 : LimS n2 g2 L2) (hn2 : n2 ≤ 15000000) (hg2 : ∀ i, i < n2 → okStep (g2 i)) (w : World) (H1 : Rd layS w v1 n1 g1) (H2 : Rd layS w v2 n2 g2) :
    Calls Tryz.prog 15 #[v1, v2] w (BoolP w (∀ k, (runS g1 n1).1 k ↔ (runS g2 n2).1 k)) := by
  obtain ⟨p1, c1, rfl, q1, q2⟩ := H1
  obtain ⟨p2, c2, rfl, q3, q4⟩ := H2
  have R1 : Hid (Rd layS w (.slice p1 n1 c1) n1 g1) := ⟨p1, c1, rfl, q1, q2⟩
  have R2 : Hid (Rd layS w (.slice p2 n2 c2) n2 g2) := ⟨p2, c2, rfl, q3, q4⟩
  have HL1 : Hid _ := hL1
  have HL2 : Hid _ := hL2
  have HG1 : Hid _ := hg1
  have HG2 : Hid _ := hg2
  clear q2 q4 hL1 hL2 hg1 hg2
  go_enter Tryz.func15, Tryz.ntmps15

  go_wp2_with fail
  refine (c29 _ n1 g1 L1 HL1.out (by omega) HG1.out _ (Rd.chg0 R1.out (by (repeat (with_reducible first | exact Chg.refl _ _ | refine Chg.plus ?_ _ _ | refine Chg.alloc ?_ _ | refine Chg.drew ?_))))).mono ?_
  rintro e w1 ⟨P1, P1', rfl, Z1⟩
  have HC1 : Hid (Chg (fun _ => False) w w1) := by
    obtain ⟨_, _, _, _, _, _, z, _⟩ := Z1.out
    exact Chg.trans (by (repeat (with_reducible first | exact Chg.refl _ _ | refine Chg.plus ?_ _ _ | refine Chg.alloc ?_ _ | refine Chg.drew ?_))) z
  go_wp2_with fail
  refine (c29 _ n2 g2 L2 HL2.out (by omega) HG2.out _ (Rd.chg0 R2.out (HC1.out.trans (by (repeat (with_reducible first | exact Chg.refl _ _ | refine Chg.plus ?_ _ _ | refine Chg.alloc ?_ _ | refine Chg.drew ?_)))))).mono ?_
  rintro e w2 ⟨P2, P2', rfl, Z2⟩
  obtain ⟨u1, m1, h1, _, _, _, a1, a2, a3, _, _, a4, _⟩ := Z1.out
  obtain ⟨u2, m2, h2, _, _, _, b1, b2, b3, _, _, b4, _⟩ := Z2.out
  have HC2 : Hid (Chg (fun _ => False) w1 w2) := Chg.trans (by (repeat (with_reducible first | exact Chg.refl _ _ | refine Chg.plus ?_ _ _ | refine Chg.alloc ?_ _ | refine Chg.drew ?_))) b1
  have S1 : Hid (SetAt w2 P1 u1 m1 h1) := a2.chg HC2.out id (fun _ _ => id)
  have S2 : Hid (SetAt w2 P2 u2 m2 h2) := b2
  have HQ : Hid ((m1 = m2 ∧ ∀ i, i < m1 → h1 i = h2 i) ↔ ∀ k, (runS g1 n1).1 k ↔ (runS g2 n2).1 k) := canon_iff a2.can b2.can a3 b3
  clear Z1 Z2 a1 a2 a3 b1 b2 b3
  go_wp2_with fail
  refine (c41 P1 P2 u1 u2 m1 m2 h1 h2 (by omega) (by omega) _ (SetAt.chg S1.out (F := fun _ => False) (by (repeat (with_reducible first | exact Chg.refl _ _ | refine Chg.plus ?_ _ _ | refine Chg.alloc ?_ _ | refine Chg.drew ?_))) id (fun _ _ => id)) (SetAt.chg S2.out (F := fun _ => False) (by (repeat (with_reducible first | exact Chg.refl _ _ | refine Chg.plus ?_ _ _ | refine Chg.alloc ?_ _ | refine Chg.drew ?_))) id (fun _ _ => id))).mono ?_
  rintro e w3 Z
  obtain ⟨b, rfl, Y⟩ := EqP.bool Z HQ.out
  clear Z
  go_wp2_with fail
  go_ret
  exact ⟨b, rfl, (HC1.out.trans HC2.out).trans (Chg.trans (by (repeat (with_reducible first | exact Chg.refl _ _ | refine Chg.plus ?_ _ _ | refine Chg.alloc ?_ _ | refine Chg.drew ?_))) Y.out.1), Y.out.2⟩
end Go.Proofs.YtmoabfpdlbngeaaGreatDoor
end
