/-
  Part of the proofs on the laws of pub-addresssets: joined texts (T6, T7).
-/
import Derived.Test.YtmoabfpdlbngeaaGreatDoorVT4
section
namespace Go.Proofs.YtmoabfpdlbngeaaGreatDoor
open Go.RowKit
set_option maxHeartbeats 400000
set_option linter.unusedVariables false
set_option linter.unusedSimpArgs false
theorem k103 (r : Nat × Nat) (k : Nat) (oa : okK r.1) (ob : okK r.2) (ok : okK k) (x : Bool) (hx : decide (r.1 ≤ k ∧ k ≤ r.2) = x) (w : World) : Calls Tryz.prog 103 #[.agg #[.int .u64 (hK r.1), .int .u64 (lK r.1), .bool true, .bool (sK r.1), .string ⟨#[]⟩, .int .u64 (hK r.2), .int .u64 (lK r.2), .bool true, .bool (sK r.2), .string ⟨#[]⟩], .agg #[.int .u64 (hK k), .int .u64 (lK k), .bool true, .bool (sK k), .string ⟨#[]⟩]] w fun e w' => e = .returned (.bool x) ∧ Plus w w' := by
  refine (c103 _ _ _ _ _ _ _ _ _ w).mono ?_
  rintro e w' ⟨rfl, q⟩
  refine ⟨?_, q⟩
  rw [cmpK _ _ oa ok, cmpK _ _ ob ok, ← hx]
  congr 2
  rw [← Bool.decide_and]
  apply decide_eq_decide.2
  by_cases q1 : r.1 < k <;> by_cases q2 : k < r.1 <;> by_cases q3 : r.2 < k <;> by_cases q4 : k < r.2 <;> simp [q1, q2, q3, q4] <;> omega
theorem k105 (a b : Nat × Nat) (oa : okR a) (ob : okR b) (x : Bool) (hx : decide (a.1 ≤ b.2 ∧ b.1 ≤ a.2) = x) (w : World) : Calls Tryz.prog 105 #[.agg #[.int .u64 (hK a.1), .int .u64 (lK a.1), .bool true, .bool (sK a.1), .string ⟨#[]⟩, .int .u64 (hK a.2), .int .u64 (lK a.2), .bool true, .bool (sK a.2), .string ⟨#[]⟩], .agg #[.int .u64 (hK b.1), .int .u64 (lK b.1), .bool true, .bool (sK b.1), .string ⟨#[]⟩, .int .u64 (hK b.2), .int .u64 (lK b.2), .bool true, .bool (sK b.2), .string ⟨#[]⟩]] w fun e w' => e = .returned (.bool x) ∧ Plus w w' := by
  have h1 : ltA (hK a.2) (lK a.2) (sK a.1) (hK a.1) (lK a.1) (sK a.1) = false := by
    have := ltK a.2 a.1 oa.b oa.a
    rw [← oa.s] at this
    rw [this]
    exact decide_eq_false (by have := oa.le; omega)
  have h2 : ltA (hK b.2) (lK b.2) (sK b.1) (hK b.1) (lK b.1) (sK b.1) = false := by
    have := ltK b.2 b.1 ob.b ob.a
    rw [← ob.s] at this
    rw [this]
    exact decide_eq_false (by have := ob.le; omega)
  have z := c105 (hK a.1) (lK a.1) (hK a.2) (lK a.2) (hK b.1) (lK b.1) (hK b.2) (lK b.2) (sK a.1) (sK b.1) w h1 h2
  rw [show (sK a.1) = sK a.1 from rfl] at z
  have e1 := oa.s
  have e2 := ob.s
  rw [← e1, ← e2]
  refine z.mono ?_
  rintro e w' ⟨rfl, q⟩
  refine ⟨?_, q⟩
  have c1 := cmpK a.1 b.2 oa.a ob.b
  have c2 := cmpK b.1 a.2 ob.a oa.b
  rw [← e2] at c1
  rw [← e1] at c2
  rw [c1, c2, ← hx]
  congr 2
  rw [← Bool.decide_and]
  apply decide_eq_decide.2
  by_cases q1 : a.1 < b.2 <;> by_cases q2 : b.2 < a.1 <;> by_cases q3 : b.1 < a.2 <;> by_cases q4 : a.2 < b.1 <;> simp [q1, q2, q3, q4] <;> omega
theorem BoolP.told {w w' : World} {Q : Prop} {e : Ending} (H : BoolP w Q e w') (x : Bool) (hx : x = true ↔ Q) : e = .returned (.bool x) ∧ Plus w w' := by
  obtain ⟨b, rfl, Z⟩ := H
  have : b = x := Bool.eq_iff_iff.2 (Z.out.2.trans hx.symm)
  exact ⟨by rw [this], Z.out.1.plus_of (fun _ _ => id)⟩
theorem BoolP.yes {w w' : World} {Q : Prop} (C : Chg (fun _ => False) w w') (q : Q) : BoolP w Q (.returned (.bool true)) w' := ⟨true, rfl, C, fun _ => q, fun _ => rfl⟩
theorem BoolP.no {w w' : World} {Q : Prop} (C : Chg (fun _ => False) w w') (q : ¬ Q) : BoolP w Q (.returned (.bool false)) w' := ⟨false, rfl, C, fun z => absurd z (by decide), fun z => absurd z q⟩
set_option maxHeartbeats 2000000 in
theorem c56 (P : Nat) (v : Value) (m : Nat) (h : Nat → Nat × Nat) (hm : m ≤ 40000000) (r : Nat × Nat) (o : okR r) (w : World) (K : SetAt w P v m h) : Calls Tryz.prog 56 #[.pointer (some ⟨P, 0, none⟩), .agg #[.int .u64 (hK r.1), .int .u64 (lK r.1), .bool true, .bool (sK r.1), .string ⟨#[]⟩, .int .u64 (hK r.2), .int .u64 (lK r.2), .bool true, .bool (sK r.2), .string ⟨#[]⟩]] w (BoolP w (∃ i, i < m ∧ ((h i).1 ≤ r.1 ∧ r.2 ≤ (h i).2))) := by
  obtain ⟨p, c, rfl⟩ := K.own.form
  have HK : Hid _ := K
  have cP := K.cell
  have hP := K.lt
  have HR : Hid _ := o
  clear K o
  go_enter Tryz.func56, Tryz.ntmps56

  go_wp2_with fail
  go_loopw [12] (fun t12 wr => ∃ i : Nat, t12 = .int .i64 i ∧ i ≤ m ∧ Hid (Chg (fun _ => False) w wr ∧ wr.rangeAt w.heap.size 0 (rcL r) ∧ ∀ j, j < i → ¬ ((h j).1 ≤ r.1 ∧ r.2 ≤ (h j).2)))
    (fun t12 _ => m - (intOf t12).toNat)
  case atStart => exact ⟨0, rfl, Nat.zero_le _, by (repeat (with_reducible first | exact Chg.refl _ _ | refine Chg.plus ?_ _ _ | refine Chg.alloc ?_ _ | refine Chg.drew ?_)), rangeAt_new w _ r rfl, fun j q => by omega⟩
  case round =>
    clear cP hP
    obtain ⟨i, rfl, hi, X⟩ := hrel
    obtain ⟨W0, rfl⟩ : ∃ x, x = wr := ⟨_, rfl⟩
    by_cases hlt : i < m
    · have hrowG : ∃ G, p = some ⟨G, 0, none⟩ ∧ W0.rangeAt G (i * 10) (rcL (h i)) ∧ m ≤ c := by
        rcases HK.out.own.chg X.out.1 (fun _ _ => id) with ⟨_, z⟩ | ⟨G, cap, e, H⟩
        · omega
        · simp only [Value.slice.injEq, true_and] at e
          have := H.row i (by omega)
          rw [Nat.zero_add] at this
          exact ⟨G, e.1, this, by rw [e.2]; exact H.le⟩
      obtain ⟨G, rfl, ra, la⟩ := hrowG

      obtain ⟨ca0, ca1, ca2, ca3, ca4, ca5, ca6, ca7, ca8, ca9⟩ := rc_cells ra
      have hG : G < W0.heap.size := World.block_lt_of_cell? _ _ ca0
      have cr0 : W0.cell? ⟨w.heap.size, 0, none⟩ = some (.int .u64 (hK r.1)) := (rc_cells X.out.2.1).1
      have cr1 : W0.cell? ⟨w.heap.size, 1, none⟩ = some (.int .u64 (lK r.1)) := (rc_cells X.out.2.1).2.1
      have cr2 : W0.cell? ⟨w.heap.size, 2, none⟩ = some (.bool true) := (rc_cells X.out.2.1).2.2.1
      have cr3 : W0.cell? ⟨w.heap.size, 3, none⟩ = some (.bool (sK r.1)) := (rc_cells X.out.2.1).2.2.2.1
      have cr4 : W0.cell? ⟨w.heap.size, 4, none⟩ = some (.string ⟨#[]⟩) := (rc_cells X.out.2.1).2.2.2.2.1
      have cr5 : W0.cell? ⟨w.heap.size, 5, none⟩ = some (.int .u64 (hK r.2)) := (rc_cells X.out.2.1).2.2.2.2.2.1
      have cr6 : W0.cell? ⟨w.heap.size, 6, none⟩ = some (.int .u64 (lK r.2)) := (rc_cells X.out.2.1).2.2.2.2.2.2.1
      have cr7 : W0.cell? ⟨w.heap.size, 7, none⟩ = some (.bool true) := (rc_cells X.out.2.1).2.2.2.2.2.2.2.1
      have cr8 : W0.cell? ⟨w.heap.size, 8, none⟩ = some (.bool (sK r.2)) := (rc_cells X.out.2.1).2.2.2.2.2.2.2.2.1
      have cr9 : W0.cell? ⟨w.heap.size, 9, none⟩ = some (.string ⟨#[]⟩) := (rc_cells X.out.2.1).2.2.2.2.2.2.2.2.2
      have hR : w.heap.size < W0.heap.size := World.block_lt_of_cell? _ _ cr0
      have ok : okR (h i) := HK.out.can.ok i hlt
      clear ra
      by_cases hq : ((h i).1 ≤ r.1 ∧ r.2 ≤ (h i).2)
      · go_wp2_with (first | (go_at_call 104; (with_reducible refine (k104 r (h i) HR.out ok true (by first | exact decide_eq_true hq | exact decide_eq_false hq) _).mono ?_); rintro e w' ⟨rfl, dd, oo, rfl⟩))
        go_ret
        exact .yes (X.out.1.trans (by (repeat (with_reducible first | exact Chg.refl _ _ | refine Chg.plus ?_ _ _ | refine Chg.alloc ?_ _ | refine Chg.drew ?_)))) ⟨i, hlt, hq⟩
      · go_wp2_with (first | (go_at_call 104; (with_reducible refine (k104 r (h i) HR.out ok false (by first | exact decide_eq_true hq | exact decide_eq_false hq) _).mono ?_); rintro e w' ⟨rfl, dd, oo, rfl⟩))
        go_roundw
        case rel => exact ⟨i + 1, by go_num, by omega, X.out.1.trans (by (repeat (with_reducible first | exact Chg.refl _ _ | refine Chg.plus ?_ _ _ | refine Chg.alloc ?_ _ | refine Chg.drew ?_))), rangeAt_chg (F := fun _ => False) (by (repeat (with_reducible first | exact Chg.refl _ _ | refine Chg.plus ?_ _ _ | refine Chg.alloc ?_ _ | refine Chg.drew ?_))) X.out.2.1 id, fun j hj => by
          by_cases e : j = i
          · subst e; exact hq
          · exact X.out.2.2 j (by omega)⟩
        case measure => simp [intOf]; omega
    · obtain rfl : i = m := by omega
      go_wp2_with fail
      go_ret
      exact .no X.out.1 (fun ⟨j, q1, q2⟩ => X.out.2.2 j q1 q2)
set_option maxHeartbeats 2000000 in
theorem c57 (P : Nat) (v : Value) (m : Nat) (h : Nat → Nat × Nat) (hm : m ≤ 40000000) (r : Nat × Nat) (o : okR r) (w : World) (K : SetAt w P v m h) : Calls Tryz.prog 57 #[.pointer (some ⟨P, 0, none⟩), .agg #[.int .u64 (hK r.1), .int .u64 (lK r.1), .bool true, .bool (sK r.1), .string ⟨#[]⟩, .int .u64 (hK r.2), .int .u64 (lK r.2), .bool true, .bool (sK r.2), .string ⟨#[]⟩]] w (BoolP w (∃ i, i < m ∧ ((h i).1 ≤ r.2 ∧ r.1 ≤ (h i).2))) := by
  obtain ⟨p, c, rfl⟩ := K.own.form
  have HK : Hid _ := K
  have cP := K.cell
  have hP := K.lt
  have HR : Hid _ := o
  clear K o
  go_enter Tryz.func57, Tryz.ntmps57

  go_wp2_with fail
  go_loopw [12] (fun t12 wr => ∃ i : Nat, t12 = .int .i64 i ∧ i ≤ m ∧ Hid (Chg (fun _ => False) w wr ∧ wr.rangeAt w.heap.size 0 (rcL r) ∧ ∀ j, j < i → ¬ ((h j).1 ≤ r.2 ∧ r.1 ≤ (h j).2)))
    (fun t12 _ => m - (intOf t12).toNat)
  case atStart => exact ⟨0, rfl, Nat.zero_le _, by (repeat (with_reducible first | exact Chg.refl _ _ | refine Chg.plus ?_ _ _ | refine Chg.alloc ?_ _ | refine Chg.drew ?_)), rangeAt_new w _ r rfl, fun j q => by omega⟩
  case round =>
    clear cP hP
    obtain ⟨i, rfl, hi, X⟩ := hrel
    obtain ⟨W0, rfl⟩ : ∃ x, x = wr := ⟨_, rfl⟩
    by_cases hlt : i < m
    · have hrowG : ∃ G, p = some ⟨G, 0, none⟩ ∧ W0.rangeAt G (i * 10) (rcL (h i)) ∧ m ≤ c := by
        rcases HK.out.own.chg X.out.1 (fun _ _ => id) with ⟨_, z⟩ | ⟨G, cap, e, H⟩
        · omega
        · simp only [Value.slice.injEq, true_and] at e
          have := H.row i (by omega)
          rw [Nat.zero_add] at this
          exact ⟨G, e.1, this, by rw [e.2]; exact H.le⟩
      obtain ⟨G, rfl, ra, la⟩ := hrowG

      obtain ⟨ca0, ca1, ca2, ca3, ca4, ca5, ca6, ca7, ca8, ca9⟩ := rc_cells ra
      have hG : G < W0.heap.size := World.block_lt_of_cell? _ _ ca0
      have cr0 : W0.cell? ⟨w.heap.size, 0, none⟩ = some (.int .u64 (hK r.1)) := (rc_cells X.out.2.1).1
      have cr1 : W0.cell? ⟨w.heap.size, 1, none⟩ = some (.int .u64 (lK r.1)) := (rc_cells X.out.2.1).2.1
      have cr2 : W0.cell? ⟨w.heap.size, 2, none⟩ = some (.bool true) := (rc_cells X.out.2.1).2.2.1
      have cr3 : W0.cell? ⟨w.heap.size, 3, none⟩ = some (.bool (sK r.1)) := (rc_cells X.out.2.1).2.2.2.1
      have cr4 : W0.cell? ⟨w.heap.size, 4, none⟩ = some (.string ⟨#[]⟩) := (rc_cells X.out.2.1).2.2.2.2.1
      have cr5 : W0.cell? ⟨w.heap.size, 5, none⟩ = some (.int .u64 (hK r.2)) := (rc_cells X.out.2.1).2.2.2.2.2.1
      have cr6 : W0.cell? ⟨w.heap.size, 6, none⟩ = some (.int .u64 (lK r.2)) := (rc_cells X.out.2.1).2.2.2.2.2.2.1
      have cr7 : W0.cell? ⟨w.heap.size, 7, none⟩ = some (.bool true) := (rc_cells X.out.2.1).2.2.2.2.2.2.2.1
      have cr8 : W0.cell? ⟨w.heap.size, 8, none⟩ = some (.bool (sK r.2)) := (rc_cells X.out.2.1).2.2.2.2.2.2.2.2.1
      have cr9 : W0.cell? ⟨w.heap.size, 9, none⟩ = some (.string ⟨#[]⟩) := (rc_cells X.out.2.1).2.2.2.2.2.2.2.2.2
      have hR : w.heap.size < W0.heap.size := World.block_lt_of_cell? _ _ cr0
      have ok : okR (h i) := HK.out.can.ok i hlt
      clear ra
      by_cases hq : ((h i).1 ≤ r.2 ∧ r.1 ≤ (h i).2)
      · go_wp2_with (first | (go_at_call 105; (with_reducible refine (k105 (h i) r ok HR.out true (by first | exact decide_eq_true hq | exact decide_eq_false hq) _).mono ?_); rintro e w' ⟨rfl, dd, oo, rfl⟩))
        go_ret
        exact .yes (X.out.1.trans (by (repeat (with_reducible first | exact Chg.refl _ _ | refine Chg.plus ?_ _ _ | refine Chg.alloc ?_ _ | refine Chg.drew ?_)))) ⟨i, hlt, hq⟩
      · go_wp2_with (first | (go_at_call 105; (with_reducible refine (k105 (h i) r ok HR.out false (by first | exact decide_eq_true hq | exact decide_eq_false hq) _).mono ?_); rintro e w' ⟨rfl, dd, oo, rfl⟩))
        go_roundw
        case rel => exact ⟨i + 1, by go_num, by omega, X.out.1.trans (by (repeat (with_reducible first | exact Chg.refl _ _ | refine Chg.plus ?_ _ _ | refine Chg.alloc ?_ _ | refine Chg.drew ?_))), rangeAt_chg (F := fun _ => False) (by (repeat (with_reducible first | exact Chg.refl _ _ | refine Chg.plus ?_ _ _ | refine Chg.alloc ?_ _ | refine Chg.drew ?_))) X.out.2.1 id, fun j hj => by
          by_cases e : j = i
          · subst e; exact hq
          · exact X.out.2.2 j (by omega)⟩
        case measure => simp [intOf]; omega
    · obtain rfl : i = m := by omega
      go_wp2_with fail
      go_ret
      exact .no X.out.1 (fun ⟨j, q1, q2⟩ => X.out.2.2 j q1 q2)
theorem c58 (P : Nat) (v : Value) (m : Nat) (h : Nat → Nat × Nat) (hm : m ≤ 40000000) (a n : Nat) (oa : okK a) (hn : n ≤ lenK a) (w : World) (K : SetAt w P v m h) : Calls Tryz.prog 58 #[.pointer (some ⟨P, 0, none⟩), .agg #[.int .u64 (hK a), .int .u64 (lK a), .bool true, .bool (sK a), .string ⟨#[]⟩, .int .u8 ((n : Nat) + 1 : Int)]] w (BoolP w (∃ i, i < m ∧ ((h i).1 ≤ (pfR a n).1 ∧ (pfR a n).2 ≤ (h i).2))) := by
  have HK : Hid _ := K
  have OR := pfR_ok a n oa hn
  clear K
  go_enter Tryz.func58, Tryz.ntmps58

  go_wp2_with (first | (go_at_call 106; (with_reducible refine (k106 a n oa hn _).mono ?_); rintro e w' ⟨rfl, dd, oo, rfl⟩))
  refine (c56 P v m h hm (pfR a n) OR _ (HK.out.chg (F := fun _ => False) (by (repeat (with_reducible first | exact Chg.refl _ _ | refine Chg.plus ?_ _ _ | refine Chg.alloc ?_ _ | refine Chg.drew ?_))) id (fun _ _ => id))).mono ?_
  rintro e w2 ⟨b, rfl, Z⟩
  go_wp2_with fail
  go_ret
  exact ⟨b, rfl, Chg.trans (by (repeat (with_reducible first | exact Chg.refl _ _ | refine Chg.plus ?_ _ _ | refine Chg.alloc ?_ _ | refine Chg.drew ?_))) Z.out.1, Z.out.2⟩
theorem c59 (P : Nat) (v : Value) (m : Nat) (h : Nat → Nat × Nat) (hm : m ≤ 40000000) (a n : Nat) (oa : okK a) (hn : n ≤ lenK a) (w : World) (K : SetAt w P v m h) : Calls Tryz.prog 59 #[.pointer (some ⟨P, 0, none⟩), .agg #[.int .u64 (hK a), .int .u64 (lK a), .bool true, .bool (sK a), .string ⟨#[]⟩, .int .u8 ((n : Nat) + 1 : Int)]] w (BoolP w (∃ i, i < m ∧ ((h i).1 ≤ (pfR a n).2 ∧ (pfR a n).1 ≤ (h i).2))) := by
  have HK : Hid _ := K
  have OR := pfR_ok a n oa hn
  clear K
  go_enter Tryz.func59, Tryz.ntmps59

  go_wp2_with (first | (go_at_call 106; (with_reducible refine (k106 a n oa hn _).mono ?_); rintro e w' ⟨rfl, dd, oo, rfl⟩))
  refine (c57 P v m h hm (pfR a n) OR _ (HK.out.chg (F := fun _ => False) (by (repeat (with_reducible first | exact Chg.refl _ _ | refine Chg.plus ?_ _ _ | refine Chg.alloc ?_ _ | refine Chg.drew ?_))) id (fun _ _ => id))).mono ?_
  rintro e w2 ⟨b, rfl, Z⟩
  go_wp2_with fail
  go_ret
  exact ⟨b, rfl, Chg.trans (by (repeat (with_reducible first | exact Chg.refl _ _ | refine Chg.plus ?_ _ _ | refine Chg.alloc ?_ _ | refine Chg.drew ?_))) Z.out.1, Z.out.2⟩
set_option maxHeartbeats 2000000 in
theorem c60 (P : Nat) (v : Value) (m : Nat) (h : Nat → Nat × Nat) (hm : m ≤ 40000000) (P' : Nat) (v' : Value) (m' : Nat) (h' : Nat → Nat × Nat) (hm' : m' ≤ 40000000) (w : World) (K : SetAt w P v m h) (K' : SetAt w P' v' m' h') : Calls Tryz.prog 60 #[.pointer (some ⟨P, 0, none⟩), .pointer (some ⟨P', 0, none⟩)] w (BoolP w (∃ i j, i < m ∧ j < m' ∧ ((h i).1 ≤ (h' j).2 ∧ (h' j).1 ≤ (h i).2))) := by
  obtain ⟨p, c, rfl⟩ := K.own.form
  obtain ⟨p', c', rfl⟩ := K'.own.form
  have HK : Hid _ := K
  have HK' : Hid _ := K'
  have cP := K.cell
  have hP := K.lt
  clear K K'
  go_enter Tryz.func60, Tryz.ntmps60

  go_wp2_with fail
  go_loopw [14] (fun t14 wr => ∃ i : Nat, t14 = .int .i64 i ∧ i ≤ m ∧ Hid (Chg (fun _ => False) w wr ∧ ∀ i', i' < i → ∀ j, j < m' → ¬ ((h i').1 ≤ (h' j).2 ∧ (h' j).1 ≤ (h i').2)))
    (fun t14 _ => m - (intOf t14).toNat)
  case atStart => exact ⟨0, rfl, Nat.zero_le _, by (repeat (with_reducible first | exact Chg.refl _ _ | refine Chg.plus ?_ _ _ | refine Chg.alloc ?_ _ | refine Chg.drew ?_)), fun j q => by omega⟩
  case round =>
    clear cP hP
    obtain ⟨i, rfl, hi, X⟩ := hrel
    obtain ⟨W0, rfl⟩ : ∃ x, x = wr := ⟨_, rfl⟩
    by_cases hlt : i < m
    · have hrowG : ∃ G, p = some ⟨G, 0, none⟩ ∧ W0.rangeAt G (i * 10) (rcL (h i)) ∧ m ≤ c := by
        rcases HK.out.own.chg X.out.1 (fun _ _ => id) with ⟨_, z⟩ | ⟨G, cap, e, H⟩
        · omega
        · simp only [Value.slice.injEq, true_and] at e
          have := H.row i (by omega)
          rw [Nat.zero_add] at this
          exact ⟨G, e.1, this, by rw [e.2]; exact H.le⟩
      obtain ⟨G, rfl, ra, la⟩ := hrowG

      obtain ⟨ca0, ca1, ca2, ca3, ca4, ca5, ca6, ca7, ca8, ca9⟩ := rc_cells ra
      have hG : G < W0.heap.size := World.block_lt_of_cell? _ _ ca0
      have ok : okR (h i) := HK.out.can.ok i hlt
      have K2 := HK'.out.chg X.out.1 id (fun _ _ => id)
      have cP' := K2.cell
      have hP' := K2.lt
      clear ra K2
      go_wp2_with fail
      go_loopw [23] (fun t23 wx => ∃ j : Nat, t23 = .int .i64 j ∧ j ≤ m' ∧ Hid (Chg (fun _ => False) w wx ∧ wx.rangeAt W0.heap.size 0 (rcL (h i)) ∧ ∀ j', j' < j → ¬ ((h i).1 ≤ (h' j').2 ∧ (h' j').1 ≤ (h i).2)))
        (fun t23 _ => m' - (intOf t23).toNat)
      case atStart => exact ⟨0, rfl, Nat.zero_le _, X.out.1.trans (by (repeat (with_reducible first | exact Chg.refl _ _ | refine Chg.plus ?_ _ _ | refine Chg.alloc ?_ _ | refine Chg.drew ?_))), rangeAt_new W0 _ (h i) rfl, fun j q => by omega⟩
      case round =>
        clear cP' hP' ca0 ca1 ca2 ca3 ca4 ca5 ca6 ca7 ca8 ca9 hG
        obtain ⟨j, rfl, hj, Y⟩ := hrel
        obtain ⟨W1, rfl⟩ : ∃ x, x = wr := ⟨_, rfl⟩
        by_cases hlt2 : j < m'
        · have hrowG' : ∃ G, p' = some ⟨G, 0, none⟩ ∧ W1.rangeAt G (j * 10) (rcL (h' j)) ∧ m' ≤ c' := by
            rcases HK'.out.own.chg Y.out.1 (fun _ _ => id) with ⟨_, z⟩ | ⟨G, cap, e, H⟩
            · omega
            · simp only [Value.slice.injEq, true_and] at e
              have := H.row j (by omega)
              rw [Nat.zero_add] at this
              exact ⟨G, e.1, this, by rw [e.2]; exact H.le⟩
          obtain ⟨G', rfl, rb, lb⟩ := hrowG'

          obtain ⟨cb0, cb1, cb2, cb3, cb4, cb5, cb6, cb7, cb8, cb9⟩ := rc_cells rb
          have hG' : G' < W1.heap.size := World.block_lt_of_cell? _ _ cb0
          have cr0 : W1.cell? ⟨W0.heap.size, 0, none⟩ = some (.int .u64 (hK (h i).1)) := (rc_cells Y.out.2.1).1
          have cr1 : W1.cell? ⟨W0.heap.size, 1, none⟩ = some (.int .u64 (lK (h i).1)) := (rc_cells Y.out.2.1).2.1
          have cr2 : W1.cell? ⟨W0.heap.size, 2, none⟩ = some (.bool true) := (rc_cells Y.out.2.1).2.2.1
          have cr3 : W1.cell? ⟨W0.heap.size, 3, none⟩ = some (.bool (sK (h i).1)) := (rc_cells Y.out.2.1).2.2.2.1
          have cr4 : W1.cell? ⟨W0.heap.size, 4, none⟩ = some (.string ⟨#[]⟩) := (rc_cells Y.out.2.1).2.2.2.2.1
          have cr5 : W1.cell? ⟨W0.heap.size, 5, none⟩ = some (.int .u64 (hK (h i).2)) := (rc_cells Y.out.2.1).2.2.2.2.2.1
          have cr6 : W1.cell? ⟨W0.heap.size, 6, none⟩ = some (.int .u64 (lK (h i).2)) := (rc_cells Y.out.2.1).2.2.2.2.2.2.1
          have cr7 : W1.cell? ⟨W0.heap.size, 7, none⟩ = some (.bool true) := (rc_cells Y.out.2.1).2.2.2.2.2.2.2.1
          have cr8 : W1.cell? ⟨W0.heap.size, 8, none⟩ = some (.bool (sK (h i).2)) := (rc_cells Y.out.2.1).2.2.2.2.2.2.2.2.1
          have cr9 : W1.cell? ⟨W0.heap.size, 9, none⟩ = some (.string ⟨#[]⟩) := (rc_cells Y.out.2.1).2.2.2.2.2.2.2.2.2
          have hR : W0.heap.size < W1.heap.size := World.block_lt_of_cell? _ _ cr0
          have ok' : okR (h' j) := HK'.out.can.ok j hlt2
          clear rb
          by_cases hq : ((h i).1 ≤ (h' j).2 ∧ (h' j).1 ≤ (h i).2)
          · go_wp2_with (first | (go_at_call 105; (with_reducible refine (k105 (h i) (h' j) ok ok' true (decide_eq_true hq) _).mono ?_); rintro e w' ⟨rfl, dd, oo, rfl⟩))
            go_ret
            exact .yes (Y.out.1.trans (by (repeat (with_reducible first | exact Chg.refl _ _ | refine Chg.plus ?_ _ _ | refine Chg.alloc ?_ _ | refine Chg.drew ?_)))) ⟨i, j, hlt, hlt2, hq⟩
          · go_wp2_with (first | (go_at_call 105; (with_reducible refine (k105 (h i) (h' j) ok ok' false (decide_eq_false hq) _).mono ?_); rintro e w' ⟨rfl, dd, oo, rfl⟩))
            go_roundw
            case rel => exact ⟨j + 1, by go_num, by omega, Y.out.1.trans (by (repeat (with_reducible first | exact Chg.refl _ _ | refine Chg.plus ?_ _ _ | refine Chg.alloc ?_ _ | refine Chg.drew ?_))), rangeAt_chg (F := fun _ => False) (by (repeat (with_reducible first | exact Chg.refl _ _ | refine Chg.plus ?_ _ _ | refine Chg.alloc ?_ _ | refine Chg.drew ?_))) Y.out.2.1 id, fun j' hj' => by
              by_cases e : j' = j
              · subst e; exact hq
              · exact Y.out.2.2 j' (by omega)⟩
            case measure => simp [intOf]; omega
        · obtain rfl : j = m' := by omega
          go_wp2_with fail
          go_roundw
          case rel => exact ⟨i + 1, by go_num, by omega, Y.out.1, fun i' hi' j hj => by
            by_cases e : i' = i
            · subst e; exact Y.out.2.2 j hj
            · exact X.out.2 i' (by omega) j hj⟩
          case measure => simp [intOf]; omega
    · obtain rfl : i = m := by omega
      go_wp2_with fail
      go_ret
      exact .no X.out.1 (fun ⟨i', j, q1, q2, q3⟩ => X.out.2 i' q1 j q2 q3)
end Go.Proofs.YtmoabfpdlbngeaaGreatDoor
end

section
namespace Go.Proofs.YtmoabfpdlbngeaaGreatDoor
open Go.RowKit
set_option maxHeartbeats 400000
set_option linter.unusedVariables false
set_option linter.unusedSimpArgs false
/-- What the closure of Contains reads: the address, the receiver, the set. -/
structure Srch (w : World) (B3 B2 P : Nat) (v : Value) (m : Nat) (h : Nat → Nat × Nat) (k : Nat) : Prop where
  a : w.heap[B3]? = some (.cells #[.int .u64 (hK k), .int .u64 (lK k), .bool true, .bool (sK k), .string ⟨#[]⟩] 78 (0, 0))
  p : w.heap[B2]? = some (.cells #[.pointer (some ⟨P, 0, none⟩)] 68 (0, 0))
  s : SetAt w P v m h
theorem Srch.chg {w w' : World} {B3 B2 P : Nat} {v : Value} {m : Nat} {h : Nat → Nat × Nat} {k : Nat} (H : Srch w B3 B2 P v m h k) (C : Chg (fun _ => False) w w') : Srch w' B3 B2 P v m h k :=
  ⟨heap_chg C H.a id, heap_chg C H.p id, H.s.chg C id (fun _ _ => id)⟩
set_option maxHeartbeats 2000000 in
theorem c101 (B3 B2 P : Nat) (v : Value) (m : Nat) (h : Nat → Nat × Nat) (k : Nat) (ok : okK k) (w : World) (H : Srch w B3 B2 P v m h k) (i : Nat) (hi : i < m) (x : Bool) (hx : decide (k < (h i).1) = x) : Calls Tryz.prog 101 #[.int .i64 (i : Int), .pointer (some ⟨B3, 0, none⟩), .pointer (some ⟨B2, 0, none⟩)] w fun e w' => e = .returned (.bool x) ∧ Plus w w' := by
  obtain ⟨p, c, rfl⟩ := H.s.own.form
  have HK : Hid _ := H
  have cP := H.s.cell
  have hP := H.s.lt
  have hz := rangeAt_of _ _ _ 78 H.a 0 [.int .u64 (hK k), .int .u64 (lK k), .bool true, .bool (sK k), .string ⟨#[]⟩] (fun j hj => by rw [Nat.zero_add, ← Array.getElem?_toList])
  have cb0 : w.cell? ⟨B3, 0, none⟩ = some (.int .u64 (hK k)) := hz 0 _ rfl
  have cb1 : w.cell? ⟨B3, 1, none⟩ = some (.int .u64 (lK k)) := hz 1 _ rfl
  have cb2 : w.cell? ⟨B3, 2, none⟩ = some (.bool true) := hz 2 _ rfl
  have cb3 : w.cell? ⟨B3, 3, none⟩ = some (.bool (sK k)) := hz 3 _ rfl
  have cb4 : w.cell? ⟨B3, 4, none⟩ = some (.string ⟨#[]⟩) := hz 4 _ rfl
  have hy := rangeAt_of _ _ _ 68 H.p 0 [.pointer (some ⟨P, 0, none⟩)] (fun j hj => by rw [Nat.zero_add, ← Array.getElem?_toList])
  have cp0 : w.cell? ⟨B2, 0, none⟩ = some (.pointer (some ⟨P, 0, none⟩)) := hy 0 _ rfl
  have hB3 := (Array.getElem?_eq_some_iff.1 H.a).1
  have hB2 := (Array.getElem?_eq_some_iff.1 H.p).1
  have hrowG : ∃ G, p = some ⟨G, 0, none⟩ ∧ w.rangeAt G (i * 10) (rcL (h i)) ∧ m ≤ c := by
    rcases H.s.own.chg (Chg.refl (fun _ => False) w) (fun _ _ => id) with ⟨_, z⟩ | ⟨G, cap, e, H⟩
    · omega
    · simp only [Value.slice.injEq, true_and] at e
      have := H.row i (by omega)
      rw [Nat.zero_add] at this
      exact ⟨G, e.1, this, by rw [e.2]; exact H.le⟩
  obtain ⟨G, rfl, ra, la⟩ := hrowG

  obtain ⟨ca0, ca1, ca2, ca3, ca4, ca5, ca6, ca7, ca8, ca9⟩ := rc_cells ra
  have hG : G < w.heap.size := World.block_lt_of_cell? _ _ ca0
  have oh : okK (h i).1 := (H.s.can.ok i hi).a
  have hi0 : (0 : Int) ≤ (i : Int) := by omega
  have hi1 : (i : Int) < (m : Int) := by omega
  clear ra hy hz H
  go_enter Tryz.func101, Tryz.ntmps101

  go_wp2_with fail
  refine wp_region_plus (by kernel_rfl) (by kernel_rfl) ?_
  repeat (go_big_quiet_step (first | (go_at_call 102; (with_reducible exact Calls.plus_of (k102 k (h i).1 ok oh x hx _)))))
  refine wpQuiet_nil ?_
  intro _ hq
  obtain ⟨⟨dq, oq⟩, rfl⟩ := hq
  go_wp2_with fail
  go_ret
  exact ⟨rfl, by repeat (first | exact Plus.refl _ | refine Plus.alloc ?_ _ | refine Plus.plus ?_ _ _ | refine Plus.drew ?_ | refine Plus.drewN ?_ _)⟩
set_option maxRecDepth 100000 in
set_option maxHeartbeats 2000000 in
/-- sort.Search over the ranges of a set. -/
theorem c100 (B3 B2 P : Nat) (v : Value) (m : Nat) (h : Nat → Nat × Nat) (hm : m ≤ 40000000) (k : Nat) (ok : okK k) (w : World) (H : Srch w B3 B2 P v m h k) : Calls Tryz.prog 100 #[.int .i64 (m : Int), .func (.func 101) #[] #[.pointer (some ⟨B3, 0, none⟩), .pointer (some ⟨B2, 0, none⟩)]] w fun e w' => ∃ i : Nat, e = .returned (.int .i64 (i : Int)) ∧ Hid (Chg (fun _ => False) w w' ∧ i ≤ m ∧ (0 < i → (h (i - 1)).1 ≤ k) ∧ (i < m → k < (h i).1)) := by
  have HS : Hid _ := H
  clear H
  go_enter Tryz.func100, Tryz.ntmps100

  go_wp2_with fail
  go_loopw [5, 6] (fun t5 t6 wr => ∃ i j : Nat, t5 = .int .i64 i ∧ t6 = .int .i64 j ∧ i ≤ j ∧ j ≤ m ∧ Hid (Chg (fun _ => False) w wr ∧ (0 < i → (h (i - 1)).1 ≤ k) ∧ (j < m → k < (h j).1)))
    (fun t5 t6 _ => (intOf t6).toNat - (intOf t5).toNat)
  case atStart => exact ⟨0, m, rfl, rfl, Nat.zero_le _, Nat.le_refl _, by (repeat (with_reducible first | exact Chg.refl _ _ | refine Chg.plus ?_ _ _ | refine Chg.alloc ?_ _ | refine Chg.drew ?_)), fun q => by omega, fun q => by omega⟩
  case round =>
    obtain ⟨i, j, rfl, rfl, hij, hj, X⟩ := hrel
    obtain ⟨W0, rfl⟩ : ∃ x, x = wr := ⟨_, rfl⟩
    by_cases hlt : i < j
    · obtain ⟨q, hq⟩ : ∃ q : Nat, q = (i + j) / 2 := ⟨_, rfl⟩
      have hz1 : (i : Int) < (j : Int) := by omega
      have hz3 : ((i : Int) + (j : Int)).fdiv (2 ^ min (Int.toNat 1) IntKind.u64.bits) = (q : Int) := by
        show ((i : Int) + (j : Int)).fdiv 2 = (q : Int)
        rw [Int.fdiv_eq_ediv_of_nonneg _ (by omega)]
        omega
      by_cases ht : k < (h q).1
      · go_wp2_with (first | (go_at_call 101; rw [show ((i : Int) + (j : Int)) / 2 = (q : Int) from by omega]; (with_reducible refine (c101 B3 B2 P v m h k ok _ (HS.out.chg (X.out.1.trans (by (repeat (with_reducible first | exact Chg.refl _ _ | refine Chg.plus ?_ _ _ | refine Chg.alloc ?_ _ | refine Chg.drew ?_))))) q (by omega) true (decide_eq_true ht)).mono ?_); rintro e w' ⟨rfl, dd, oo, rfl⟩))
        go_roundw
        case rel => exact ⟨i, q, by go_num, by go_num, by omega, by omega, X.out.1.trans (by (repeat (with_reducible first | exact Chg.refl _ _ | refine Chg.plus ?_ _ _ | refine Chg.alloc ?_ _ | refine Chg.drew ?_))), X.out.2.1, fun _ => ht⟩
        case measure => simp [intOf]; omega
      · go_wp2_with (first | (go_at_call 101; rw [show ((i : Int) + (j : Int)) / 2 = (q : Int) from by omega]; (with_reducible refine (c101 B3 B2 P v m h k ok _ (HS.out.chg (X.out.1.trans (by (repeat (with_reducible first | exact Chg.refl _ _ | refine Chg.plus ?_ _ _ | refine Chg.alloc ?_ _ | refine Chg.drew ?_))))) q (by omega) false (decide_eq_false ht)).mono ?_); rintro e w' ⟨rfl, dd, oo, rfl⟩))
        go_roundw
        case rel => exact ⟨q + 1, j, by go_num, by go_num, by omega, by omega, X.out.1.trans (by (repeat (with_reducible first | exact Chg.refl _ _ | refine Chg.plus ?_ _ _ | refine Chg.alloc ?_ _ | refine Chg.drew ?_))), fun _ => by rw [Nat.add_sub_cancel]; omega, X.out.2.2⟩
        case measure => simp [intOf]; omega
    · obtain rfl : i = j := by omega
      have hz1 : ¬ (i : Int) < (i : Int) := by omega
      go_wp2_with fail
      go_ret
      exact ⟨i, rfl, X.out.1, hj, X.out.2.1, X.out.2.2⟩
/-- A key stands in a set just if it stands in the range that the search finds. -/
theorem srch_mem {m : Nat} {h : Nat → Nat × Nat} (C : CanonR m h) (k i : Nat) (hi : i ≤ m) (h1 : 0 < i → (h (i - 1)).1 ≤ k) (h2 : i < m → k < (h i).1) : MemR m h k ↔ (0 < i ∧ (h (i - 1)).1 ≤ k ∧ k ≤ (h (i - 1)).2) := by
  constructor
  · rintro ⟨j, hj, q1, q2⟩
    have hji : j < i := by
      rcases Nat.lt_or_ge j i with z | z
      · exact z
      · exfalso
        have z2 := h2 (by omega)
        by_cases e : i = j
        · subst e; omega
        · have := canon_mono C i j (by omega) hj
          have := (C.ok i (by omega)).le
          omega
    by_cases e : j = i - 1
    · subst e; exact ⟨by omega, q1, q2⟩
    · have := canon_mono C j (i - 1) (by omega) (by omega)
      have := h1 (by omega)
      omega
  · rintro ⟨q1, q2, q3⟩
    exact ⟨i - 1, by omega, q2, q3⟩
set_option maxHeartbeats 2000000 in
theorem c55 (P : Nat) (v : Value) (m : Nat) (h : Nat → Nat × Nat) (hm : m ≤ 40000000) (k : Nat) (ok : okK k) (w : World) (K : SetAt w P v m h) : Calls Tryz.prog 55 #[.pointer (some ⟨P, 0, none⟩), .agg #[.int .u64 (hK k), .int .u64 (lK k), .bool true, .bool (sK k), .string ⟨#[]⟩]] w (BoolP w (MemR m h k)) := by
  obtain ⟨p, c, rfl⟩ := K.own.form
  have HK : Hid _ := K
  have cP := K.cell
  have hP := K.lt
  clear K
  go_enter Tryz.func55, Tryz.ntmps55

  go_wp2_with (first | (go_at_call 99; (with_reducible refine (c99 _ _ _ _).mono ?_); rintro e w' ⟨rfl, dd, oo, rfl⟩))
  have HSR : Hid (Srch ((w.alloc (.cells #[.pointer (some ⟨P, 0, none⟩)] 68)).alloc (.cells #[.int .u64 (hK k), .int .u64 (lK k), .bool true, .bool (sK k), .string ⟨#[]⟩] 78)) (w.heap.size + 1) w.heap.size P (.slice p m c) m h k) := ⟨blk_new (by simp), blk_alloc (blk_new rfl) _, HK.out.chg (F := fun _ => False) (by (repeat (with_reducible first | exact Chg.refl _ _ | refine Chg.plus ?_ _ _ | refine Chg.alloc ?_ _ | refine Chg.drew ?_))) id (fun _ _ => id)⟩
  refine (c100 (w.heap.size + 1) w.heap.size P _ m h hm k ok _ (HSR.out.chg (by (repeat (with_reducible first | exact Chg.refl _ _ | refine Chg.plus ?_ _ _ | refine Chg.alloc ?_ _ | refine Chg.drew ?_))))).mono ?_
  rintro e w2 ⟨i, rfl, Z⟩
  have HC2 : Hid (Chg (fun _ => False) w w2) := Chg.trans (by (repeat (with_reducible first | exact Chg.refl _ _ | refine Chg.plus ?_ _ _ | refine Chg.alloc ?_ _ | refine Chg.drew ?_))) Z.out.1
  have HS2 : Hid (Srch w2 (w.heap.size + 1) w.heap.size P (.slice p m c) m h k) := HSR.out.chg (Chg.trans (by (repeat (with_reducible first | exact Chg.refl _ _ | refine Chg.plus ?_ _ _ | refine Chg.alloc ?_ _ | refine Chg.drew ?_))) Z.out.1)
  have hi : i ≤ m := Z.out.2.1
  have HME : Hid (MemR m h k ↔ (0 < i ∧ (h (i - 1)).1 ≤ k ∧ k ≤ (h (i - 1)).2)) := srch_mem HK.out.can k i hi Z.out.2.2.1 Z.out.2.2.2
  clear Z cP hP
  by_cases h0 : i = 0
  · subst h0
    go_wp2_with fail
    go_ret
    exact .no HC2.out (fun q => absurd (HME.out.1 q).1 (by omega))
  · obtain ⟨j, rfl⟩ : ∃ j, i = j + 1 := ⟨i - 1, by omega⟩
    have hj : j < m := by omega
    have hz1 : (((j + 1 : Nat) : Int) == 0) = false := by rw [beq_eq_false_iff_ne]; omega
    have hz2 : ((j + 1 : Nat) : Int) - 1 = (j : Int) := by omega
    have cP := HS2.out.s.cell
    have hP := HS2.out.s.lt
    have hz := rangeAt_of _ _ _ 78 HS2.out.a 0 [.int .u64 (hK k), .int .u64 (lK k), .bool true, .bool (sK k), .string ⟨#[]⟩] (fun j hj => by rw [Nat.zero_add, ← Array.getElem?_toList])
    have cb0 : w2.cell? ⟨w.heap.size + 1, 0, none⟩ = some (.int .u64 (hK k)) := hz 0 _ rfl
    have cb1 : w2.cell? ⟨w.heap.size + 1, 1, none⟩ = some (.int .u64 (lK k)) := hz 1 _ rfl
    have cb2 : w2.cell? ⟨w.heap.size + 1, 2, none⟩ = some (.bool true) := hz 2 _ rfl
    have cb3 : w2.cell? ⟨w.heap.size + 1, 3, none⟩ = some (.bool (sK k)) := hz 3 _ rfl
    have cb4 : w2.cell? ⟨w.heap.size + 1, 4, none⟩ = some (.string ⟨#[]⟩) := hz 4 _ rfl
    have hy := rangeAt_of _ _ _ 68 HS2.out.p 0 [.pointer (some ⟨P, 0, none⟩)] (fun j hj => by rw [Nat.zero_add, ← Array.getElem?_toList])
    have cp0 : w2.cell? ⟨w.heap.size, 0, none⟩ = some (.pointer (some ⟨P, 0, none⟩)) := hy 0 _ rfl
    have hB3 := (Array.getElem?_eq_some_iff.1 HS2.out.a).1
    have hB2 := (Array.getElem?_eq_some_iff.1 HS2.out.p).1
    have hrowG : ∃ G, p = some ⟨G, 0, none⟩ ∧ w2.rangeAt G (j * 10) (rcL (h j)) ∧ m ≤ c := by
      rcases HK.out.own.chg HC2.out (fun _ _ => id) with ⟨_, z⟩ | ⟨G, cap, e, H⟩
      · omega
      · simp only [Value.slice.injEq, true_and] at e
        have := H.row j (by omega)
        rw [Nat.zero_add] at this
        exact ⟨G, e.1, this, by rw [e.2]; exact H.le⟩
    obtain ⟨G, rfl, ra, la⟩ := hrowG

    obtain ⟨ca0, ca1, ca2, ca3, ca4, ca5, ca6, ca7, ca8, ca9⟩ := rc_cells ra
    have hG : G < w2.heap.size := World.block_lt_of_cell? _ _ ca0
    have oh : okR (h j) := HK.out.can.ok j hj
    have oh1 := oh.a
    have oh2 := oh.b
    clear ra hy hz oh
    obtain ⟨x, hx⟩ : ∃ x, decide ((h j).1 ≤ k ∧ k ≤ (h j).2) = x := ⟨_, rfl⟩
    have hq0 : (0 : Int) ≤ (j : Int) := by omega
    have hq1 : (j : Int) < (m : Int) := by omega
    go_wp2_with fail
    refine wp_region_plus (by kernel_rfl) (by kernel_rfl) ?_
    repeat (go_big_quiet_step (first | (go_at_call 103; (with_reducible exact Calls.plus_of (k103 (h j) k oh1 oh2 ok x hx _)))))
    refine wpQuiet_nil ?_
    intro _ hq
    obtain ⟨⟨dq, oq⟩, rfl⟩ := hq
    go_wp2_with fail
    go_ret
    refine ⟨x, rfl, HC2.out.trans (by (repeat (with_reducible first | exact Chg.refl _ _ | refine Chg.plus ?_ _ _ | refine Chg.alloc ?_ _ | refine Chg.drew ?_))), ?_⟩
    rw [HME.out, Nat.add_sub_cancel, ← hx]
    constructor
    · exact fun q => ⟨by omega, of_decide_eq_true q⟩
    · exact fun q => decide_eq_true q.2
end Go.Proofs.YtmoabfpdlbngeaaGreatDoor
end
