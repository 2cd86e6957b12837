/-
  Part of the proofs on the laws of pub-addresssets: joined texts (U1).
-/
import Derived.Test.YtmoabfpdlbngeaaGreatDoorVT9
section
namespace Go.Proofs.YtmoabfpdlbngeaaGreatDoor
open Go.RowKit
set_option maxHeartbeats 400000
set_option linter.unusedVariables false
set_option linter.unusedSimpArgs false
/-- A range is one block just if its chain is of one. -/
theorem cpZ_one (HA LA HB LB A B : Nat) (hA : HA * 18446744073709551616 + LA = A) (hB : HB * 18446744073709551616 + LB = B) (a1 : HA < 18446744073709551616) (a2 : LA < 18446744073709551616) (b1 : HB < 18446744073709551616) (b2 : LB < 18446744073709551616) (hAB : A ≤ B) (m : Nat) (g : Nat → Nat × Nat) (C : ChV A B m g) (c : Nat) (hc : c ≤ 128) (ec : cpl (HA : Int) (LA : Int) (HB : Int) (LB : Int) = (c : Int)) :
    (cpZ (HA : Int) (LA : Int) (HB : Int) (LB : Int) = true ↔ m = 1) ∧ (cpZ (HA : Int) (LA : Int) (HB : Int) (LB : Int) = true → g 0 = (A, 128 - c)) := by
  obtain ⟨c', _, ec', x1, x2, x3⟩ := cpl_spec HA LA HB LB a1 a2 b1 b2
  obtain rfl : c = c' := by rw [ec] at ec'; exact Int.ofNat.inj ec'
  rw [hA, hB] at x1 x2
  have hcA := cpA_spec HA LA c a1 a2 hc
  have hcB := cpB_spec HB LB c b1 b2 hc
  rw [hA] at hcA
  rw [hB] at hcB
  have hp := Nat.two_pow_pos (128 - c)
  have fwd : cpZ (HA : Int) (LA : Int) (HB : Int) (LB : Int) = true → ChV A B 1 (fun _ => (A, 128 - c)) := by
    intro hz
    by_cases h8 : c = 128
    · obtain ⟨e1, e2⟩ := x3 h8
      subst e1 e2 h8
      exact ChV.one (Nat.mod_one _) (by show A + 2 ^ 0 = B + 1; omega)
    · unfold cpZ at hz
      rw [ec, if_neg (by omega)] at hz
      have hz1 := hcA.1 (by simp at hz; exact hz.1)
      have hz2 := hcB.1 (by simp at hz; exact hz.2)
      refine ChV.one hz1 ?_
      have d1 := Nat.div_add_mod A (2 ^ (128 - c))
      have d2 := Nat.div_add_mod B (2 ^ (128 - c))
      have d3 := Nat.div_add_mod (B + 1) (2 ^ (128 - c))
      have m2 := Nat.mod_lt B hp
      rw [x1] at d1
      generalize 2 ^ (128 - c) = p at *
      generalize B / p = u at *
      generalize (B + 1) / p = v at *
      have hv : p * v = B + 1 := by omega
      have hu : p * u = A := by omega
      have : u < v := by
        refine Nat.lt_of_not_le fun l => ?_
        have := Nat.mul_le_mul_left p l
        omega
      have h1 : p * (u + 1) ≤ p * v := Nat.mul_le_mul_left p this
      have h2 : v ≤ u + 1 := by
        refine Nat.le_of_not_lt fun l => ?_
        have : p * (u + 1 + 1) ≤ p * v := Nat.mul_le_mul_left p l
        rw [Nat.mul_add, Nat.mul_add] at this
        omega
      have : v = u + 1 := by omega
      rw [this, Nat.mul_add] at hv
      omega
  constructor
  · constructor
    · intro hz
      exact (C.uniq (fwd hz)).1
    · rintro rfl
      cases hz : cpZ (HA : Int) (LA : Int) (HB : Int) (LB : Int)
      · exfalso
        have hc8 : c < 128 := by
          refine Nat.lt_of_not_le fun l => ?_
          unfold cpZ at hz
          rw [ec, if_pos (by omega)] at hz
          cases hz
        have hne : ¬ (A % 2 ^ (128 - c) = 0 ∧ (B + 1) % 2 ^ (128 - c) = 0) := fun ⟨z1, z2⟩ => by
          unfold cpZ at hz
          rw [ec, if_neg (by omega), hcA.2 z1, hcB.2 z2] at hz
          cases hz
        have f1 := C.fst
        have f2 := C.al 0 (by omega)
        have f3 := C.lst
        rw [show 1 - 1 = 0 by omega, f1] at f3
        rw [f1] at f2
        generalize (g 0).2 = q at *
        have hq : 128 - c ≤ q := by
          refine Nat.le_of_not_lt fun l => ?_
          refine x2 (by omega) ?_
          have e : 2 ^ (128 - c - 1) = 2 ^ q * 2 ^ (128 - c - 1 - q) := by rw [← Nat.pow_add]; congr 1; omega
          rw [e, ← Nat.div_div_eq_div_mul, ← Nat.div_div_eq_div_mul]
          congr 1
          have hp2 := Nat.two_pow_pos q
          obtain ⟨t, ht⟩ := Nat.dvd_of_mod_eq_zero f2
          rw [show B = 2 ^ q * t + (2 ^ q - 1) by omega, ht, Nat.mul_div_cancel_left _ hp2, Nat.mul_add_div hp2, Nat.div_eq_of_lt (by omega)]
          omega
        refine hne ⟨mod_pow f2 hq, ?_⟩
        rw [← f3, Nat.add_mod, mod_pow f2 hq, pow_mod hq]
        rfl
      · rfl
  · intro hz
    obtain ⟨e1, e2⟩ := C.uniq (fwd hz)
    exact e2 0 (by omega)
theorem or_top (x q : Nat) : (x / 2 ^ q * 2 ^ q) ||| (2 ^ q - 1) = x ||| (2 ^ q - 1) := by
  apply Nat.eq_of_testBit_eq
  intro i
  rw [Nat.testBit_or, Nat.testBit_or, Nat.testBit_two_pow_sub_one, ← Nat.shiftRight_eq_div_pow, ← Nat.shiftLeft_eq, Nat.testBit_shiftLeft, Nat.testBit_shiftRight]
  by_cases h : i < q
  · simp [h]
  · have e : q + (i - q) = i := by omega
    simp [h, e]
    omega
theorem lastH_eq (H n : Nat) : lastH n (topH H n) = lastH n H := or_top _ _
theorem lastL_eq (L n : Nat) (hL : L < 18446744073709551616) (hn : n ≤ 128) : lastL n (topL L n) = lastL n L := by
  by_cases h : n ≤ 64
  · rw [lastL_top L n hn, if_pos h]
    unfold lastL
    rw [show min 64 (128 - n) = 64 by omega]
    have h1 := Nat.or_lt_two_pow (n := 64) (x := L) (y := 2 ^ 64 - 1) hL (by omega)
    have h2 : 2 ^ 64 - 1 ≤ L ||| (2 ^ 64 - 1) := Nat.right_le_or
    omega
  · unfold lastL topL
    rw [if_neg h, show min 64 (128 - n) = 128 - n by omega]
    exact or_top _ _
theorem k71 (k n : Nat) (o : okK k) (hn : n ≤ lenK k) (x : Nat) (hx : (pfR k n).2 = x) (w : World) : Calls Tryz.prog 71 #[.agg #[.int .u64 (hK k), .int .u64 (lK k), .bool true, .bool (sK k), .string ⟨#[]⟩, .int .u8 ((n : Nat) + 1 : Int)]] w fun e w' => e = .returned (.agg #[.int .u64 (hK x), .int .u64 (lK x), .bool true, .bool (sK x), .string ⟨#[]⟩]) ∧ Plus w w' := by
  unfold lenK at hn
  rw [← hx]
  by_cases s : 8589934592 ≤ k
  · rw [if_pos s] at hn
    obtain ⟨_, b1, b2, b3, b4⟩ := pf6_ok k n o s hn
    rw [b2, b3, b4, lastH_eq, lastL_eq _ _ (lN_lt k o) hn, show sK k = true from decide_eq_true s, hK_N, lK_N]
    exact c71_6 _ _ n hn (hN_lt k o) (lN_lt k o) w
  · rw [if_neg s] at hn
    have h : k < 4294967296 := by unfold okK at o; omega
    obtain ⟨_, b1, b2, b3, b4⟩ := pf4_ok k n h hn
    have eL : lN k = 281470681743360 + k := by unfold lN; rw [if_neg s]
    have eH : hN k = 0 := by unfold hN; rw [if_neg s]
    rw [b2, b3, b4, lastL_eq _ _ (lN_lt k o) (by omega), show sK k = false from decide_eq_false s, hK_N, lK_N, eH]
    exact c71_4 _ n hn (lN_lt k o) (by rw [eL]; omega) w
set_option maxHeartbeats 2000000 in
/-- impl.Last. -/
theorem c28 (k n : Nat) (o : okK k) (hn : n ≤ lenK k) (x : Nat) (hx : (pfR k n).2 = x) (w : World) : Calls Tryz.prog 28 #[.agg #[.bool (sK k), .int .u64 (hK k), .int .u64 (mK k), .int .i64 ((n : Nat) : Int)]] w fun e w' => e = .returned (.agg #[.bool (sK x), .int .u64 (hK x), .int .u64 (mK x)]) ∧ Plus w w' := by
  have ox : okK x := by rw [← hx]; exact (pfR_ok k n o hn).b
  go_enter Tryz.func28, Tryz.ntmps28

  go_wp2_with fail
  go_region_with (first | (go_at_call 52; (with_reducible refine (k52 _ ?_ _).mono ?_); (focus assumption); rintro e w' ⟨rfl, dd, oo, rfl⟩) | (go_at_call 54; (with_reducible refine (k54 k n o hn _).mono ?_); rintro e w' ⟨rfl, dd, oo, rfl⟩) | (go_at_call 71; (with_reducible refine (k71 k n o hn x hx _).mono ?_); rintro e w' ⟨rfl, dd, oo, rfl⟩) | (go_at_call 31; (with_reducible refine (k31 x ox _).mono ?_); rintro e w' ⟨rfl, dd, oo, rfl⟩))
  all_goals go_wp2_with fail
  all_goals exact bodyPost_ret (v := .agg #[.bool (sK x), .int .u64 (hK x), .int .u64 (mK x)]) (by simp [results, Tryz.results28, go_sem, IntWalk.iteOmega, ↓IntWalk.iteOmega]) rfl ⟨rfl, by repeat (first | exact Plus.refl _ | refine Plus.alloc ?_ _ | refine Plus.plus ?_ _ _ | refine Plus.drew ?_ | refine Plus.drewN ?_ _)⟩
set_option maxHeartbeats 4000000 in
/-- IPRange.Prefix: whether the range is one block. -/
theorem c61 (r : Nat × Nat) (or : okR r) (m : Nat) (g : Nat → Nat × Nat) (C : ChV (vK r.1) (vK r.2) m g) (w : World) : Calls Tryz.prog 61 #[.agg #[.int .u64 (hK r.1), .int .u64 (lK r.1), .bool true, .bool (sK r.1), .string ⟨#[]⟩, .int .u64 (hK r.2), .int .u64 (lK r.2), .bool true, .bool (sK r.2), .string ⟨#[]⟩]] w fun e w' => ∃ x0 x1 x2 x3 x4 x5, e = .returned (.tuple #[.agg #[.int .u64 x0, .int .u64 x1, .bool x2, .bool x3, .string ⟨#[]⟩, .int .u8 x5], .bool (decide (m = 1))]) ∧ Hid (x4 = (0 : Nat) ∧ Plus w w') := by
  obtain ⟨g1, g2, g3⟩ := vK_range r or
  obtain ⟨c, hc, ec, x1, x2, x3⟩ := cpl_spec (hN r.1) (lN r.1) (hN r.2) (lN r.2) (hN_lt _ or.a) (lN_lt _ or.a) (hN_lt _ or.b) (lN_lt _ or.b)
  obtain ⟨f1, f2⟩ := cpZ_one (hN r.1) (lN r.1) (hN r.2) (lN r.2) (vK r.1) (vK r.2) rfl rfl (hN_lt _ or.a) (lN_lt _ or.a) (hN_lt _ or.b) (lN_lt _ or.b) g1 m g C c hc ec
  have oa := or.a
  have ob := or.b
  obtain ⟨z, hz⟩ : ∃ z, cpZ ((hN r.1 : Nat) : Int) ((lN r.1 : Nat) : Int) ((hN r.2 : Nat) : Int) ((lN r.2 : Nat) : Int) = z := ⟨_, rfl⟩
  rw [hz] at f1 f2
  have HZ1 : Hid (z = decide (m = 1)) := by
    unfold Hid
    cases z
    · exact (decide_eq_false (fun q => by have := f1.2 q; cases this)).symm
    · exact (decide_eq_true (f1.1 rfl)).symm
  have HOR : Hid _ := or
  have HG3 : Hid _ := g3
  have k110' : ∀ w, Calls Tryz.prog 110 #[.agg #[.int .u64 ((hN r.1 : Nat) : Int), .int .u64 ((lN r.1 : Nat) : Int)], .agg #[.int .u64 ((hN r.2 : Nat) : Int), .int .u64 ((lN r.2 : Nat) : Int)]] w fun e w' => e = .returned (.tuple #[.int .u8 (c : Int), .bool z]) ∧ Plus w w' := fun w => k110 (hN r.1) (lN r.1) (hN r.2) (lN r.2) (hN_lt _ oa) (lN_lt _ oa) (hN_lt _ ob) (lN_lt _ ob) c ec z hz w
  have K110 : Hid _ := k110'
  have HF2 : Hid _ := f2
  have HC : Hid _ := C
  clear f1 f2 C g1 g2 g3 x1 x2 x3 hz ec k110' or
  cases z
  · rw [← HZ1.out]
    go_enter Tryz.func61, Tryz.ntmps61

    go_wp2_with (first | (go_at_call 107; (with_reducible refine (k107 r HOR.out _).mono ?_); rintro e w' ⟨rfl, dd, oo, rfl⟩) | (go_at_call 109; (with_reducible refine (k109 r.1 _).mono ?_); rintro e w' ⟨rfl, dd, oo, rfl⟩) | (go_at_call 109; (with_reducible refine (k109 r.2 _).mono ?_); rintro e w' ⟨rfl, dd, oo, rfl⟩) | (go_at_call 108; (with_reducible refine (k108 r.1 oa _).mono ?_); rintro e w' ⟨rfl, dd, oo, rfl⟩) | (go_at_call 108; (with_reducible refine (k108 r.2 ob _).mono ?_); rintro e w' ⟨rfl, dd, oo, rfl⟩) | (go_at_call 110; (with_reducible refine (K110.out _).mono ?_); rintro e w' ⟨rfl, dd, oo, rfl⟩))
    refine bodyPost_ret (v := .tuple #[.agg #[.int .u64 0, .int .u64 0, .bool false, .bool false, .string ⟨#[]⟩, .int .u8 0], .bool false]) (by simp [results, Tryz.results61, go_sem, IntWalk.iteOmega, ↓IntWalk.iteOmega]) rfl ⟨_, _, _, _, 0, _, rfl, rfl, ?_⟩
    repeat (first | exact Plus.refl _ | refine Plus.alloc ?_ _ | refine Plus.plus ?_ _ _ | refine Plus.drew ?_ | refine Plus.drewN ?_ _)
  · rw [← HZ1.out]
    have hP : 0 < m := HC.out.pos
    have hfit := HC.out.fit 0 hP
    rw [HF2.out rfl] at hfit
    have hq : sK r.1 = false → vK r.1 < 281474976710656 ∧ 128 - c ≤ 32 := fun q => by
      have hg := HG3.out q
      have hfit' : vK r.1 + 2 ^ (128 - c) ≤ vK r.2 + 1 := hfit
      refine ⟨by have := Nat.two_pow_pos (128 - c); omega, Nat.le_of_not_lt fun l => ?_⟩
      have : 2 ^ 33 ≤ 2 ^ (128 - c) := Nat.pow_le_pow_right (by omega) l
      omega
    have HQ : Hid _ := hq
    obtain ⟨P, hPP⟩ : ∃ P, pfV (sK r.1) (vK r.1, 128 - c) = P := ⟨_, rfl⟩
    have HPP : Hid _ := hPP
    clear hfit hq hPP hP
    go_enter Tryz.func61, Tryz.ntmps61

    go_wp2_with (first | (go_at_call 107; (with_reducible refine (k107 r HOR.out _).mono ?_); rintro e w' ⟨rfl, dd, oo, rfl⟩) | (go_at_call 109; (with_reducible refine (k109 r.1 _).mono ?_); rintro e w' ⟨rfl, dd, oo, rfl⟩) | (go_at_call 109; (with_reducible refine (k109 r.2 _).mono ?_); rintro e w' ⟨rfl, dd, oo, rfl⟩) | (go_at_call 108; (with_reducible refine (k108 r.1 oa _).mono ?_); rintro e w' ⟨rfl, dd, oo, rfl⟩) | (go_at_call 108; (with_reducible refine (k108 r.2 ob _).mono ?_); rintro e w' ⟨rfl, dd, oo, rfl⟩) | (go_at_call 110; (with_reducible refine (K110.out _).mono ?_); rintro e w' ⟨rfl, dd, oo, rfl⟩))
    refine (k111P r (sK r.1) rfl HOR.out.s.symm (hN r.1) (lN r.1) c (hN_lt _ oa) (lN_lt _ oa) hc (vK r.1) rfl HQ.out P HPP.out _).mono ?_
    rintro e w' ⟨rfl, dd, oo, rfl⟩
    go_wp2_with fail
    refine bodyPost_ret (v := .tuple #[.agg #[.int .u64 (hK P.1), .int .u64 (lK P.1), .bool true, .bool (sK P.1), .string ⟨#[]⟩, .int .u8 ((P.2 : Nat) + 1 : Int)], .bool true]) (by simp [results, Tryz.results61, go_sem, IntWalk.iteOmega, ↓IntWalk.iteOmega]) rfl ⟨_, _, _, _, 0, _, rfl, rfl, ?_⟩
    repeat (first | exact Plus.refl _ | refine Plus.alloc ?_ _ | refine Plus.plus ?_ _ _ | refine Plus.drew ?_ | refine Plus.drewN ?_ _)
end Go.Proofs.YtmoabfpdlbngeaaGreatDoor
end
