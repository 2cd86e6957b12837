/-
  Part of the proofs on the laws of pub-addresssets: joined texts (B3, B4).
-/
import Derived.Test.YtmoabfpdlbngeaaGreatDoorVPf
import Derived.Test.YtmoabfpdlbngeaaGreatDoorVSA
section
namespace Go.Proofs.YtmoabfpdlbngeaaGreatDoor
open Go.RowKit
set_option maxHeartbeats 400000
set_option linter.unusedVariables false
set_option linter.unusedSimpArgs false
theorem maskH (H n : Nat) (hH : H < 18446744073709551616) : bits .and .u64 ((H : Nat) : Int) (mkH6 ((n : Nat) : Int)) = ((topH H n : Nat) : Int) := by
  unfold mkH6
  have e1 : (18446744073709551615 : Int) / 2 ^ min ((n : Nat) : Int).toNat 64 = ((18446744073709551615 / 2 ^ min n 64 : Nat) : Int) := by
    rw [Int.toNat_natCast, Int.natCast_ediv, Int.natCast_pow]; rfl
  have e2 : IntKind.u64.max = ((18446744073709551615 : Nat) : Int) := rfl
  have l1 : 18446744073709551615 / 2 ^ min n 64 < 18446744073709551616 := Nat.lt_of_le_of_lt (Nat.div_le_self _ _) (by omega)
  have l2 : 18446744073709551615 ^^^ (18446744073709551615 / 2 ^ min n 64) < 2 ^ 64 := Nat.xor_lt_two_pow (by omega) (by omega)
  rw [e1, e2, u64_xor_nat _ _ (by omega) l1, u64_and_nat _ _ hH (by omega)]
  have := and_hi H (min n 64) (by omega) (by omega)
  rw [show (2 : Nat) ^ 64 - 1 = 18446744073709551615 from rfl] at this
  rw [this]
  unfold topH
  rw [show 64 - min n 64 = 64 - n by omega]
theorem maskL (L n : Nat) (hL : L < 18446744073709551616) (hn : n ≤ 128) : bits .and .u64 ((L : Nat) : Int) (mkL6 ((n : Nat) : Int)) = ((topL L n : Nat) : Int) := by
  unfold mkL6
  have e0 : (128 - ((n : Nat) : Int)).toNat = 128 - n := by omega
  rw [e0, wrap_u64]
  have e1 : (18446744073709551615 : Int) * 2 ^ min (128 - n) 64 % 18446744073709551616 = ((18446744073709551615 * 2 ^ min (128 - n) 64 % 18446744073709551616 : Nat) : Int) := by rw [Int.natCast_emod, Int.natCast_mul, Int.natCast_pow]; rfl
  rw [e1, u64_and_nat _ _ hL (Nat.mod_lt _ (by omega))]
  have := and_lo L (min (128 - n) 64) (by omega) (by omega)
  rw [show (2 : Nat) ^ 64 - 1 = 18446744073709551615 from rfl, show (2 : Nat) ^ 64 = 18446744073709551616 from rfl] at this
  rw [this]
  unfold topL
  by_cases h : n ≤ 64
  · rw [if_pos h, show min (128 - n) 64 = 64 by omega]
    congr 1
    have : L / 2 ^ 64 = 0 := Nat.div_eq_of_lt hL
    rw [this, Nat.zero_mul]
  · rw [if_neg h, show min (128 - n) 64 = 128 - n by omega]
theorem k54 (k n : Nat) (o : okK k) (hn : n ≤ lenK k) (w : World) : Calls Tryz.prog 54 #[.agg #[.int .u64 (hK k), .int .u64 (lK k), .bool true, .bool (sK k), .string ⟨#[]⟩], .int .i64 (n : Int)] w fun e w' => e = .returned (.agg #[.int .u64 (hK k), .int .u64 (lK k), .bool true, .bool (sK k), .string ⟨#[]⟩, .int .u8 ((n : Nat) + 1 : Int)]) ∧ Plus w w' := by
  unfold lenK at hn
  by_cases s : 8589934592 ≤ k
  · rw [if_pos s] at hn
    have e : sK k = true := decide_eq_true s
    rw [e]
    exact c54_true _ _ _ (by omega) (by omega) w
  · rw [if_neg s] at hn
    have e : sK k = false := decide_eq_false s
    rw [e]
    exact c54_false _ _ _ (by omega) (by omega) w
theorem k136 (k n : Nat) (o : okK k) (hn : n ≤ lenK k) (w : World) : Calls Tryz.prog 136 #[.agg #[.int .u64 (hK k), .int .u64 (lK k), .bool true, .bool (sK k), .string ⟨#[]⟩, .int .u8 ((n : Nat) + 1 : Int)]] w fun e w' => e = .returned (.agg #[.int .u64 (hK (pfR k n).1), .int .u64 (lK (pfR k n).1), .bool true, .bool (sK (pfR k n).1), .string ⟨#[]⟩, .int .u8 ((n : Nat) + 1 : Int)]) ∧ Plus w w' := by
  have e0 : (((n : Nat) : Int) + 1 - 1) = ((n : Nat) : Int) := by omega
  unfold lenK at hn
  by_cases s : 8589934592 ≤ k
  · rw [if_pos s] at hn
    have e : sK k = true := decide_eq_true s
    obtain ⟨⟨a1, a2, a3, a4⟩, _⟩ := pf6_ok k n o s hn
    have hq := c136_true (hK k) (lK k) ((n : Nat) + 1) (by omega) (by omega) w
    rw [e0, hK_N k, lK_N k, maskH _ _ (hN_lt k o), maskL _ _ (lN_lt k o) hn] at hq
    show Calls _ _ _ _ fun e w' => e = .returned (.agg #[.int .u64 (hK (pfA k n)), .int .u64 (lK (pfA k n)), .bool true, .bool (sK (pfA k n)), .string ⟨#[]⟩, .int .u8 ((n : Nat) + 1 : Int)]) ∧ Plus w w'
    rw [e, a2, a3, a4, hK_N k, lK_N k]
    exact hq
  · rw [if_neg s] at hn
    have e : sK k = false := decide_eq_false s
    have h : k < 4294967296 := by unfold okK at o; omega
    obtain ⟨⟨a1, a2, a3, a4⟩, _⟩ := pf4_ok k n h hn
    have hq := c136_false (hK k) (lK k) ((n : Nat) + 1) (by omega) (by omega) w
    rw [e0, show ((n : Nat) : Int) + 96 = ((96 + n : Nat) : Int) by omega, hK_N k, lK_N k, maskH _ _ (hN_lt k o), maskL _ _ (lN_lt k o) (by omega)] at hq
    have z : topH (hN k) (96 + n) = 0 := by unfold topH hN; rw [if_neg s, Nat.zero_div, Nat.zero_mul]
    rw [z] at hq
    show Calls _ _ _ _ fun e w' => e = .returned (.agg #[.int .u64 (hK (pfA k n)), .int .u64 (lK (pfA k n)), .bool true, .bool (sK (pfA k n)), .string ⟨#[]⟩, .int .u8 ((n : Nat) + 1 : Int)]) ∧ Plus w w'
    rw [e, a2, a3, a4, hK_N k, lK_N k]
    exact hq
/-- The last address of a prefix that is masked. -/
theorem k71m (k n : Nat) (o : okK k) (hn : n ≤ lenK k) (w : World) : Calls Tryz.prog 71 #[.agg #[.int .u64 (hK (pfR k n).1), .int .u64 (lK (pfR k n).1), .bool true, .bool (sK (pfR k n).1), .string ⟨#[]⟩, .int .u8 ((n : Nat) + 1 : Int)]] w fun e w' => e = .returned (.agg #[.int .u64 (hK (pfR k n).2), .int .u64 (lK (pfR k n).2), .bool true, .bool (sK (pfR k n).2), .string ⟨#[]⟩]) ∧ Plus w w' := by
  unfold lenK at hn
  show Calls Tryz.prog 71 #[.agg #[.int .u64 (hK (pfA k n)), .int .u64 (lK (pfA k n)), .bool true, .bool (sK (pfA k n)), .string ⟨#[]⟩, .int .u8 ((n : Nat) + 1 : Int)]] w _
  by_cases s : 8589934592 ≤ k
  · rw [if_pos s] at hn
    obtain ⟨⟨a1, a2, a3, a4⟩, b1, b2, b3, b4⟩ := pf6_ok k n o s hn
    rw [a2, a3, a4, b2, b3, b4]
    exact c71_6 _ _ n hn (topH_lt' _ _ (hN_lt k o)) (topL_lt' _ _ (lN_lt k o)) w
  · rw [if_neg s] at hn
    have h : k < 4294967296 := by unfold okK at o; omega
    obtain ⟨⟨a1, a2, a3, a4⟩, b1, b2, b3, b4⟩ := pf4_ok k n h hn
    rw [a2, a3, a4, b2, b3, b4]
    refine c71_4 _ n hn (topL_lt' _ _ (lN_lt k o)) ?_ w
    have eL : lN k = 281470681743360 + k := by unfold lN; rw [if_neg s]
    obtain ⟨t1, t2⟩ := pf4_top k n h hn
    rw [topL4 _ _ hn, eL, t1]
    omega
theorem k53 (a b : Nat) (w : World) : Calls Tryz.prog 53 #[.agg #[.int .u64 (hK a), .int .u64 (lK a), .bool true, .bool (sK a), .string ⟨#[]⟩], .agg #[.int .u64 (hK b), .int .u64 (lK b), .bool true, .bool (sK b), .string ⟨#[]⟩]] w fun e w' => e = .returned (.agg #[.int .u64 (hK (a, b).1), .int .u64 (lK (a, b).1), .bool true, .bool (sK (a, b).1), .string ⟨#[]⟩, .int .u64 (hK (a, b).2), .int .u64 (lK (a, b).2), .bool true, .bool (sK (a, b).2), .string ⟨#[]⟩]) ∧ Plus w w' := c53 _ _ _ _ _ _ w
theorem k53r (r : Nat × Nat) (w : World) : Calls Tryz.prog 53 #[.agg #[.int .u64 (hK r.1), .int .u64 (lK r.1), .bool true, .bool (sK r.1), .string ⟨#[]⟩], .agg #[.int .u64 (hK r.2), .int .u64 (lK r.2), .bool true, .bool (sK r.2), .string ⟨#[]⟩]] w fun e w' => e = .returned (.agg #[.int .u64 (hK r.1), .int .u64 (lK r.1), .bool true, .bool (sK r.1), .string ⟨#[]⟩, .int .u64 (hK r.2), .int .u64 (lK r.2), .bool true, .bool (sK r.2), .string ⟨#[]⟩]) ∧ Plus w w' := c53 _ _ _ _ _ _ w
theorem k120 (k n : Nat) (w : World) : Calls Tryz.prog 120 #[.agg #[.int .u64 (hK k), .int .u64 (lK k), .bool true, .bool (sK k), .string ⟨#[]⟩, .int .u8 ((n : Nat) + 1 : Int)]] w fun e w' => e = .returned (.bool true) ∧ Plus w w' := c120 _ _ _ _ (by omega) w
theorem k43 (k n : Nat) (w : World) : Calls Tryz.prog 43 #[.agg #[.int .u64 (hK k), .int .u64 (lK k), .bool true, .bool (sK k), .string ⟨#[]⟩, .int .u8 ((n : Nat) + 1 : Int)]] w fun e w' => e = .returned (.agg #[.int .u64 (hK k), .int .u64 (lK k), .bool true, .bool (sK k), .string ⟨#[]⟩]) ∧ Plus w w' := c43 _ _ _ _ w
theorem k44 (k n : Nat) (hn : n ≤ 128) (w : World) : Calls Tryz.prog 44 #[.agg #[.int .u64 (hK k), .int .u64 (lK k), .bool true, .bool (sK k), .string ⟨#[]⟩, .int .u8 ((n : Nat) + 1 : Int)]] w fun e w' => e = .returned (.int .i64 (n : Int)) ∧ Plus w w' := by
  have hq := c44 (hK k) (lK k) (sK k) ((n : Nat) + 1) (by omega) (by omega) w
  rwa [show (((n : Nat) : Int) + 1 - 1) = ((n : Nat) : Int) by omega] at hq
theorem k52 (k : Nat) (o : okK k) (w : World) : Calls Tryz.prog 52 #[.agg #[.bool (sK k), .int .u64 (hK k), .int .u64 (mK k)]] w fun e w' => e = .returned (.agg #[.int .u64 (hK k), .int .u64 (lK k), .bool true, .bool (sK k), .string ⟨#[]⟩]) ∧ Plus w w' := by
  by_cases s : 8589934592 ≤ k
  · have e : sK k = true := decide_eq_true s
    have em : mK k = lK k := by unfold mK lK; rw [if_pos s, if_pos s]
    have w1 := hK_in k o
    have w2 := lK_in k o
    rw [e, em]
    exact c52_6 _ _ w w1.1 w1.2 w2.1 w2.2
  · have e : sK k = false := decide_eq_false s
    have h : k < 4294967296 := by unfold okK at o; omega
    have eh : hK k = 0 := by unfold hK; rw [if_neg s]
    have el : lK k = 281470681743360 + mK k % 4294967296 := by unfold lK mK; rw [if_neg s, if_neg s]; omega
    have hq := c52_4 (hK k) (mK k) w
    rw [← el] at hq
    rw [e]
    rw [eh] at hq ⊢
    exact hq
theorem k31 (k : Nat) (o : okK k) (w : World) : Calls Tryz.prog 31 #[.agg #[.int .u64 (hK k), .int .u64 (lK k), .bool true, .bool (sK k), .string ⟨#[]⟩]] w fun e w' => e = .returned (.agg #[.bool (sK k), .int .u64 (hK k), .int .u64 (mK k)]) ∧ Plus w w' := by
  by_cases s : 8589934592 ≤ k
  · have e : sK k = true := decide_eq_true s
    have em : mK k = lK k := by unfold mK lK; rw [if_pos s, if_pos s]
    have w1 := hK_in k o
    have w2 := lK_in k o
    rw [e, em]
    exact c31_6 _ _ w w1.1 w1.2 w2.1 w2.2
  · have e : sK k = false := decide_eq_false s
    have h : k < 4294967296 := by unfold okK at o; omega
    have eh : hK k = 0 := by unfold hK; rw [if_neg s]
    have el : mK k = lK k % 4294967296 := by unfold lK mK; rw [if_neg s, if_neg s]; omega
    rw [e, eh, el]
    exact c31_4 _ _ w
theorem k106 (k n : Nat) (o : okK k) (hn : n ≤ lenK k) (w : World) : Calls Tryz.prog 106 #[.agg #[.int .u64 (hK k), .int .u64 (lK k), .bool true, .bool (sK k), .string ⟨#[]⟩, .int .u8 ((n : Nat) + 1 : Int)]] w fun e w' => e = .returned (.agg #[.int .u64 (hK (pfR k n).1), .int .u64 (lK (pfR k n).1), .bool true, .bool (sK (pfR k n).1), .string ⟨#[]⟩, .int .u64 (hK (pfR k n).2), .int .u64 (lK (pfR k n).2), .bool true, .bool (sK (pfR k n).2), .string ⟨#[]⟩]) ∧ Plus w w' := by
  go_enter Tryz.func106, Tryz.ntmps106

  go_wp2_with (first | (go_at_call 136; (with_reducible refine (k136 k n o hn _).mono ?_); rintro e w' ⟨rfl, dd, oo, rfl⟩) | (go_at_call 120; (with_reducible refine (k120 _ _ _).mono ?_); rintro e w' ⟨rfl, dd, oo, rfl⟩))
  refine wp_region_plus_tail 5 (by kernel_rfl) (by kernel_rfl) ?_
  simp only [List.take_succ_cons, List.take_zero, List.drop_succ_cons, List.drop_zero]
  repeat (go_big_quiet_step (first | (go_at_call 43; exact Calls.plus_of (k43 _ _ _)) | (go_at_call 71; exact Calls.plus_of (k71m k n o hn _)) | (go_at_call 53; exact Calls.plus_of (k53r (pfR k n) _))))
  refine wpQuiet_nil ?_
  intro _ hq
  obtain ⟨⟨dq, oq⟩, rfl⟩ := hq
  go_wp2_with fail
  exact bodyPost_ret (v := .agg #[.int .u64 (hK (pfR k n).1), .int .u64 (lK (pfR k n).1), .bool true, .bool (sK (pfR k n).1), .string ⟨#[]⟩, .int .u64 (hK (pfR k n).2), .int .u64 (lK (pfR k n).2), .bool true, .bool (sK (pfR k n).2), .string ⟨#[]⟩]) (by simp [results, Tryz.results106, go_sem, IntWalk.iteOmega, ↓IntWalk.iteOmega]) rfl ⟨rfl, by repeat (first | exact Plus.refl _ | refine Plus.alloc ?_ _ | refine Plus.plus ?_ _ _ | refine Plus.drew ?_ | refine Plus.drewN ?_ _)⟩

end Go.Proofs.YtmoabfpdlbngeaaGreatDoor
end

section
namespace Go.Proofs.YtmoabfpdlbngeaaGreatDoor
open Go.RowKit
set_option maxHeartbeats 400000
set_option linter.unusedVariables false
set_option linter.unusedSimpArgs false
theorem s72 (B : Nat) (vi vo : Value) (N : Nat) (S : Nat → Prop) (hN : N ≤ 80000000) (r : Nat × Nat) (or : okR r) (w : World) (H : Bs w B vi vo N S) : Calls Tryz.prog 72 #[.pointer (some ⟨B, 0, none⟩), .agg #[.int .u64 (hK r.1), .int .u64 (lK r.1), .bool true, .bool (sK r.1), .string ⟨#[]⟩, .int .u64 (hK r.2), .int .u64 (lK r.2), .bool true, .bool (sK r.2), .string ⟨#[]⟩]] w fun e w' => e = .returned (.tuple #[]) ∧ Stp w B vi vo (N + 1) (fun k => S k ∨ (r.1 ≤ k ∧ k ≤ r.2)) w' := by
  obtain ⟨n, f, n', f', H, h1, h2⟩ := H
  obtain ⟨p, c, rfl⟩ := H.o.form
  by_cases h0 : n' = 0
  · subst h0
    exact c72a B p c vi n f f' N S h1 (by omega) h2 r or w H
  · exact c72b B p c vi n f n' (by omega) f' N S h1 (by omega) h2 r or w H
theorem s73 (B : Nat) (vi vo : Value) (N : Nat) (S : Nat → Prop) (hN : N ≤ 80000000) (r : Nat × Nat) (or : okR r) (w : World) (H : Bs w B vi vo N S) : Calls Tryz.prog 73 #[.pointer (some ⟨B, 0, none⟩), .agg #[.int .u64 (hK r.1), .int .u64 (lK r.1), .bool true, .bool (sK r.1), .string ⟨#[]⟩, .int .u64 (hK r.2), .int .u64 (lK r.2), .bool true, .bool (sK r.2), .string ⟨#[]⟩]] w fun e w' => e = .returned (.tuple #[]) ∧ Stp w B vi vo (N + 1) (fun k => S k ∧ ¬ (r.1 ≤ k ∧ k ≤ r.2)) w' := by
  obtain ⟨n, f, n', f', H, h1, h2⟩ := H
  refine (c73 B vi vo n f n' f' (by omega) r or w H).mono ?_
  rintro e w' ⟨rfl, v, C, H', F⟩
  refine ⟨rfl, vi, v, mvOut C F, n, f, n' + 1, snoc n' f' r, H', by omega, fun k => ?_⟩
  show (S k ∧ _) ↔ _
  rw [h2 k, MemR_snoc, not_or, and_assoc]
theorem k89 (k : Nat) (w : World) : Calls Tryz.prog 89 #[.agg #[.int .u64 (hK k), .int .u64 (lK k), .bool true, .bool (sK k), .string ⟨#[]⟩]] w fun e w' => e = .returned (.bool true) ∧ Plus w w' := c89 _ _ _ w
theorem Stp.from0 {w W w' : World} {B : Nat} {vi vo : Value} {N : Nat} {S : Nat → Prop} (Z : Stp W B vi vo N S w') (C : Chg (fun _ => False) w W) : Stp w B vi vo N S w' := Z.after (.of0 C B vi vo)
theorem okR_one {k : Nat} (o : okK k) : okR (k, k) := ⟨o, o, rfl, Nat.le_refl _⟩
theorem s76 (B : Nat) (vi vo : Value) (N : Nat) (S : Nat → Prop) (hN : N ≤ 80000000) (a : Nat) (oa : okK a) (w : World) (H : Bs w B vi vo N S) : Calls Tryz.prog 76 #[.pointer (some ⟨B, 0, none⟩), .agg #[.int .u64 (hK a), .int .u64 (lK a), .bool true, .bool (sK a), .string ⟨#[]⟩]] w fun e w' => e = .returned (.tuple #[]) ∧ Stp w B vi vo (N + 1) (fun k => S k ∨ (a ≤ k ∧ k ≤ a)) w' := by
  have HH : Hid _ := H
  clear H
  
  go_enter Tryz.func76, Tryz.ntmps76

  go_wp2_with (first | (go_at_call 89; (with_reducible refine (k89 _ _).mono ?_); rintro e w' ⟨rfl, dd, oo, rfl⟩) | (go_at_call 53; (with_reducible refine (k53 a a _).mono ?_); rintro e w' ⟨rfl, dd, oo, rfl⟩))
  refine (s72 B vi vo N S hN (a, a) (okR_one oa) _ (Bs.chg0 HH.out (by (repeat (with_reducible first | refine Chg.plus ?_ _ _ | refine Chg.alloc ?_ _ | refine Chg.drew ?_ | exact Chg.refl _ _))))).mono ?_
  rintro e w' ⟨rfl, Z⟩
  have HZ : Hid _ := Z
  clear Z
  go_wp2_with fail
  go_end0
  exact ⟨rfl, Stp.from0 HZ.out (by (repeat (with_reducible first | refine Chg.plus ?_ _ _ | refine Chg.alloc ?_ _ | refine Chg.drew ?_ | exact Chg.refl _ _)))⟩
theorem s77 (B : Nat) (vi vo : Value) (N : Nat) (S : Nat → Prop) (hN : N ≤ 80000000) (a : Nat) (oa : okK a) (w : World) (H : Bs w B vi vo N S) : Calls Tryz.prog 77 #[.pointer (some ⟨B, 0, none⟩), .agg #[.int .u64 (hK a), .int .u64 (lK a), .bool true, .bool (sK a), .string ⟨#[]⟩]] w fun e w' => e = .returned (.tuple #[]) ∧ Stp w B vi vo (N + 1) (fun k => S k ∧ ¬ (a ≤ k ∧ k ≤ a)) w' := by
  have HH : Hid _ := H
  clear H
  
  go_enter Tryz.func77, Tryz.ntmps77

  go_wp2_with (first | (go_at_call 89; (with_reducible refine (k89 _ _).mono ?_); rintro e w' ⟨rfl, dd, oo, rfl⟩) | (go_at_call 53; (with_reducible refine (k53 a a _).mono ?_); rintro e w' ⟨rfl, dd, oo, rfl⟩))
  refine (s73 B vi vo N S hN (a, a) (okR_one oa) _ (Bs.chg0 HH.out (by (repeat (with_reducible first | refine Chg.plus ?_ _ _ | refine Chg.alloc ?_ _ | refine Chg.drew ?_ | exact Chg.refl _ _))))).mono ?_
  rintro e w' ⟨rfl, Z⟩
  have HZ : Hid _ := Z
  clear Z
  go_wp2_with fail
  go_end0
  exact ⟨rfl, Stp.from0 HZ.out (by (repeat (with_reducible first | refine Chg.plus ?_ _ _ | refine Chg.alloc ?_ _ | refine Chg.drew ?_ | exact Chg.refl _ _)))⟩
theorem s74 (B : Nat) (vi vo : Value) (N : Nat) (S : Nat → Prop) (hN : N ≤ 80000000) (a n : Nat) (oa : okK a) (hn : n ≤ lenK a) (w : World) (H : Bs w B vi vo N S) : Calls Tryz.prog 74 #[.pointer (some ⟨B, 0, none⟩), .agg #[.int .u64 (hK a), .int .u64 (lK a), .bool true, .bool (sK a), .string ⟨#[]⟩, .int .u8 ((n : Nat) + 1 : Int)]] w fun e w' => e = .returned (.tuple #[]) ∧ Stp w B vi vo (N + 1) (fun k => S k ∨ ((pfR a n).1 ≤ k ∧ k ≤ (pfR a n).2)) w' := by
  have HH : Hid _ := H
  clear H
  have OR := pfR_ok a n oa hn
  go_enter Tryz.func74, Tryz.ntmps74

  go_wp2_with (first | (go_at_call 106; (with_reducible refine (k106 a n oa hn _).mono ?_); rintro e w' ⟨rfl, dd, oo, rfl⟩) | (go_at_call 107; (with_reducible refine (k107 (pfR a n) OR _).mono ?_); rintro e w' ⟨rfl, dd, oo, rfl⟩))
  refine (s72 B vi vo N S hN (pfR a n) OR _ (Bs.chg0 HH.out (by (repeat (with_reducible first | refine Chg.plus ?_ _ _ | refine Chg.alloc ?_ _ | refine Chg.drew ?_ | exact Chg.refl _ _))))).mono ?_
  rintro e w' ⟨rfl, Z⟩
  have HZ : Hid _ := Z
  clear Z
  go_wp2_with fail
  go_end0
  exact ⟨rfl, Stp.from0 HZ.out (by (repeat (with_reducible first | refine Chg.plus ?_ _ _ | refine Chg.alloc ?_ _ | refine Chg.drew ?_ | exact Chg.refl _ _)))⟩
theorem s75 (B : Nat) (vi vo : Value) (N : Nat) (S : Nat → Prop) (hN : N ≤ 80000000) (a n : Nat) (oa : okK a) (hn : n ≤ lenK a) (w : World) (H : Bs w B vi vo N S) : Calls Tryz.prog 75 #[.pointer (some ⟨B, 0, none⟩), .agg #[.int .u64 (hK a), .int .u64 (lK a), .bool true, .bool (sK a), .string ⟨#[]⟩, .int .u8 ((n : Nat) + 1 : Int)]] w fun e w' => e = .returned (.tuple #[]) ∧ Stp w B vi vo (N + 1) (fun k => S k ∧ ¬ ((pfR a n).1 ≤ k ∧ k ≤ (pfR a n).2)) w' := by
  have HH : Hid _ := H
  clear H
  have OR := pfR_ok a n oa hn
  go_enter Tryz.func75, Tryz.ntmps75

  go_wp2_with (first | (go_at_call 106; (with_reducible refine (k106 a n oa hn _).mono ?_); rintro e w' ⟨rfl, dd, oo, rfl⟩) | (go_at_call 107; (with_reducible refine (k107 (pfR a n) OR _).mono ?_); rintro e w' ⟨rfl, dd, oo, rfl⟩))
  refine (s73 B vi vo N S hN (pfR a n) OR _ (Bs.chg0 HH.out (by (repeat (with_reducible first | refine Chg.plus ?_ _ _ | refine Chg.alloc ?_ _ | refine Chg.drew ?_ | exact Chg.refl _ _))))).mono ?_
  rintro e w' ⟨rfl, Z⟩
  have HZ : Hid _ := Z
  clear Z
  go_wp2_with fail
  go_end0
  exact ⟨rfl, Stp.from0 HZ.out (by (repeat (with_reducible first | refine Chg.plus ?_ _ _ | refine Chg.alloc ?_ _ | refine Chg.drew ?_ | exact Chg.refl _ _)))⟩
end Go.Proofs.YtmoabfpdlbngeaaGreatDoor
end
