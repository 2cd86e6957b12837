/-
  Part of the proofs on the laws of pub-addresssets: joined texts (SH).
-/
import Derived.Test.YtmoabfpdlbngeaaGreatDoorVSF
section
namespace Go.Proofs.YtmoabfpdlbngeaaGreatDoor
open Go.RowKit
set_option maxHeartbeats 400000
set_option linter.unusedVariables false
set_option linter.unusedSimpArgs false
theorem near_in (b1 b2 : Int) (x1 : 0 ≤ b1) (y1 : b1 < 256) (x2 : 0 ≤ b2) (y2 : b2 < 256) : bits .or .u64 b1 (b2 % 4 * 256) = b1 + b2 % 4 * 256 :=
  or_add' 8 (b2 % 4 * 256) b1 (by omega) (by omega) (by omega) x1 (by omega) (by omega)
theorem not64 (x : Int) (h0 : 0 ≤ x) (h1 : x < 18446744073709551616) : bits .xor .u64 IntKind.u64.max x = 18446744073709551615 - x := by
  obtain ⟨X, rfl⟩ := Int.eq_ofNat_of_zero_le h0
  have e2 : IntKind.u64.max = ((18446744073709551615 : Nat) : Int) := rfl
  rw [e2, u64_xor_nat _ _ (by omega) (by omega)]
  have : 18446744073709551615 ^^^ X = 18446744073709551615 - X := by
    apply Nat.eq_of_testBit_eq
    intro i
    have := Nat.testBit_two_pow_sub_succ (n := 64) (x := X) (by omega) i
    rw [show 2 ^ 64 - (X + 1) = 18446744073709551615 - X by omega] at this
    rw [this, Nat.testBit_xor]
    have h2 := Nat.testBit_two_pow_sub_one 64 i
    rw [show (2 : Nat) ^ 64 - 1 = 18446744073709551615 from rfl] at h2
    rw [h2]
    by_cases hi : i < 64
    · rw [decide_eq_true hi]; simp
    · have : X.testBit i = false := Nat.testBit_lt_two_pow (Nat.lt_of_lt_of_le (show X < 2 ^ 64 by omega) (Nat.pow_le_pow_right (by omega) (by omega)))
      rw [decide_eq_false hi, this]; rfl
  rw [this]
  omega
/-- An address of 4 bytes, of 16, by its halves. -/
theorem key4 (x : Int) (h0 : 0 ≤ x) (h1 : x < 4294967296) : ∃ k, okK k ∧ sK k = false ∧ hK k = 0 ∧ mK k = x := by
  obtain ⟨X, rfl⟩ := Int.eq_ofNat_of_zero_le h0
  refine ⟨X, .inl (by omega), decide_eq_false (by omega), ?_, ?_⟩
  · unfold hK; rw [if_neg (by omega)]
  · unfold mK; rw [if_neg (by omega)]
theorem key6 (x y : Int) (h0 : 0 ≤ x) (h1 : x < 18446744073709551616) (h2 : 0 ≤ y) (h3 : y < 18446744073709551616) : ∃ k, okK k ∧ sK k = true ∧ hK k = x ∧ mK k = y := by
  obtain ⟨X, rfl⟩ := Int.eq_ofNat_of_zero_le h0
  obtain ⟨Y, rfl⟩ := Int.eq_ofNat_of_zero_le h2
  obtain ⟨a, b, c, d⟩ := @pf6_key X Y (by omega) (by omega)
  exact ⟨_, a, b, c, (mK6 _ (of_decide_eq_true b)).trans d⟩
theorem c49_10 (b0 b1 b2 b3 : Int) (x0 : 0 ≤ b0) (y0 : b0 < 256) (x1 : 0 ≤ b1) (y1 : b1 < 256) (x2 : 0 ≤ b2) (y2 : b2 < 256) (x3 : 0 ≤ b3) (y3 : b3 < 256) (nr : Int) (n0 : 0 ≤ nr) (n1 : nr < 1024) (hn : bits .or .u64 b1 (b2 % 4 * 256) = nr) (h0 : b0 % 2 = 1) (h3 : b3 % 6 = 0) (w : World) : Calls Tryz.prog 49 #[.agg #[.int .u8 b0, .int .u8 b1, .int .u8 b2, .int .u8 b3]] w fun e w' => e = .returned (.agg #[.bool true, .int .u64 0, .int .u64 (nr + 167772160)]) ∧ Plus w w' := by
  go_enter Tryz.func49, Tryz.ntmps49

  go_wp2_with fail
  exact bodyPost_ret (v := .agg #[.bool true, .int .u64 0, .int .u64 (nr + 167772160)]) (by simp [results, Tryz.results49, go_sem, IntWalk.iteOmega, ↓IntWalk.iteOmega]) rfl ⟨rfl, by repeat (first | exact Plus.refl _ | refine Plus.alloc ?_ _ | refine Plus.plus ?_ _ _ | refine Plus.drew ?_ | refine Plus.drewN ?_ _)⟩

theorem c49_11 (b0 b1 b2 b3 : Int) (x0 : 0 ≤ b0) (y0 : b0 < 256) (x1 : 0 ≤ b1) (y1 : b1 < 256) (x2 : 0 ≤ b2) (y2 : b2 < 256) (x3 : 0 ≤ b3) (y3 : b3 < 256) (nr : Int) (n0 : 0 ≤ nr) (n1 : nr < 1024) (hn : bits .or .u64 b1 (b2 % 4 * 256) = nr) (h0 : b0 % 2 = 1) (h3 : b3 % 6 = 1) (w : World) : Calls Tryz.prog 49 #[.agg #[.int .u8 b0, .int .u8 b1, .int .u8 b2, .int .u8 b3]] w fun e w' => e = .returned (.agg #[.bool true, .int .u64 0, .int .u64 (nr + 167772160)]) ∧ Plus w w' := by
  go_enter Tryz.func49, Tryz.ntmps49

  go_wp2_with fail
  exact bodyPost_ret (v := .agg #[.bool true, .int .u64 0, .int .u64 (nr + 167772160)]) (by simp [results, Tryz.results49, go_sem, IntWalk.iteOmega, ↓IntWalk.iteOmega]) rfl ⟨rfl, by repeat (first | exact Plus.refl _ | refine Plus.alloc ?_ _ | refine Plus.plus ?_ _ _ | refine Plus.drew ?_ | refine Plus.drewN ?_ _)⟩

theorem c49_12 (b0 b1 b2 b3 : Int) (x0 : 0 ≤ b0) (y0 : b0 < 256) (x1 : 0 ≤ b1) (y1 : b1 < 256) (x2 : 0 ≤ b2) (y2 : b2 < 256) (x3 : 0 ≤ b3) (y3 : b3 < 256) (nr : Int) (n0 : 0 ≤ nr) (n1 : nr < 1024) (hn : bits .or .u64 b1 (b2 % 4 * 256) = nr) (h0 : b0 % 2 = 1) (h3 : b3 % 6 = 2) (w : World) : Calls Tryz.prog 49 #[.agg #[.int .u8 b0, .int .u8 b1, .int .u8 b2, .int .u8 b3]] w fun e w' => e = .returned (.agg #[.bool true, .int .u64 18446744073709551615, .int .u64 (bits .xor .u64 IntKind.u64.max nr)]) ∧ Plus w w' := by
  go_enter Tryz.func49, Tryz.ntmps49

  go_wp2_with fail
  exact bodyPost_ret (v := .agg #[.bool true, .int .u64 18446744073709551615, .int .u64 (bits .xor .u64 IntKind.u64.max nr)]) (by simp [results, Tryz.results49, go_sem, IntWalk.iteOmega, ↓IntWalk.iteOmega]) rfl ⟨rfl, by repeat (first | exact Plus.refl _ | refine Plus.alloc ?_ _ | refine Plus.plus ?_ _ _ | refine Plus.drew ?_ | refine Plus.drewN ?_ _)⟩

theorem c49_13 (b0 b1 b2 b3 : Int) (x0 : 0 ≤ b0) (y0 : b0 < 256) (x1 : 0 ≤ b1) (y1 : b1 < 256) (x2 : 0 ≤ b2) (y2 : b2 < 256) (x3 : 0 ≤ b3) (y3 : b3 < 256) (nr : Int) (n0 : 0 ≤ nr) (n1 : nr < 1024) (hn : bits .or .u64 b1 (b2 % 4 * 256) = nr) (h0 : b0 % 2 = 1) (h3 : b3 % 6 = 3) (w : World) : Calls Tryz.prog 49 #[.agg #[.int .u8 b0, .int .u8 b1, .int .u8 b2, .int .u8 b3]] w fun e w' => e = .returned (.agg #[.bool true, .int .u64 b2, .int .u64 nr]) ∧ Plus w w' := by
  go_enter Tryz.func49, Tryz.ntmps49

  go_wp2_with fail
  exact bodyPost_ret (v := .agg #[.bool true, .int .u64 b2, .int .u64 nr]) (by simp [results, Tryz.results49, go_sem, IntWalk.iteOmega, ↓IntWalk.iteOmega]) rfl ⟨rfl, by repeat (first | exact Plus.refl _ | refine Plus.alloc ?_ _ | refine Plus.plus ?_ _ _ | refine Plus.drew ?_ | refine Plus.drewN ?_ _)⟩

theorem c49_14 (b0 b1 b2 b3 : Int) (x0 : 0 ≤ b0) (y0 : b0 < 256) (x1 : 0 ≤ b1) (y1 : b1 < 256) (x2 : 0 ≤ b2) (y2 : b2 < 256) (x3 : 0 ≤ b3) (y3 : b3 < 256) (nr : Int) (n0 : 0 ≤ nr) (n1 : nr < 1024) (hn : bits .or .u64 b1 (b2 % 4 * 256) = nr) (h0 : b0 % 2 = 1) (h3 : b3 % 6 = 4) (w : World) : Calls Tryz.prog 49 #[.agg #[.int .u8 b0, .int .u8 b1, .int .u8 b2, .int .u8 b3]] w fun e w' => e = .returned (.agg #[.bool true, .int .u64 nr, .int .u64 0]) ∧ Plus w w' := by
  go_enter Tryz.func49, Tryz.ntmps49

  go_wp2_with fail
  exact bodyPost_ret (v := .agg #[.bool true, .int .u64 nr, .int .u64 0]) (by simp [results, Tryz.results49, go_sem, IntWalk.iteOmega, ↓IntWalk.iteOmega]) rfl ⟨rfl, by repeat (first | exact Plus.refl _ | refine Plus.alloc ?_ _ | refine Plus.plus ?_ _ _ | refine Plus.drew ?_ | refine Plus.drewN ?_ _)⟩

theorem c49_15 (b0 b1 b2 b3 : Int) (x0 : 0 ≤ b0) (y0 : b0 < 256) (x1 : 0 ≤ b1) (y1 : b1 < 256) (x2 : 0 ≤ b2) (y2 : b2 < 256) (x3 : 0 ≤ b3) (y3 : b3 < 256) (nr : Int) (n0 : 0 ≤ nr) (n1 : nr < 1024) (hn : bits .or .u64 b1 (b2 % 4 * 256) = nr) (h0 : b0 % 2 = 1) (h3 : b3 % 6 = 5) (w : World) : Calls Tryz.prog 49 #[.agg #[.int .u8 b0, .int .u8 b1, .int .u8 b2, .int .u8 b3]] w fun e w' => e = .returned (.agg #[.bool true, .int .u64 0, .int .u64 nr]) ∧ Plus w w' := by
  go_enter Tryz.func49, Tryz.ntmps49

  go_wp2_with fail
  exact bodyPost_ret (v := .agg #[.bool true, .int .u64 0, .int .u64 nr]) (by simp [results, Tryz.results49, go_sem, IntWalk.iteOmega, ↓IntWalk.iteOmega]) rfl ⟨rfl, by repeat (first | exact Plus.refl _ | refine Plus.alloc ?_ _ | refine Plus.plus ?_ _ _ | refine Plus.drew ?_ | refine Plus.drewN ?_ _)⟩

theorem c49_00 (b0 b1 b2 b3 : Int) (x0 : 0 ≤ b0) (y0 : b0 < 256) (x1 : 0 ≤ b1) (y1 : b1 < 256) (x2 : 0 ≤ b2) (y2 : b2 < 256) (x3 : 0 ≤ b3) (y3 : b3 < 256) (nr : Int) (n0 : 0 ≤ nr) (n1 : nr < 1024) (hn : bits .or .u64 b1 (b2 % 4 * 256) = nr) (h0 : b0 % 2 = 0) (h3 : b3 % 6 = 0) (w : World) : Calls Tryz.prog 49 #[.agg #[.int .u8 b0, .int .u8 b1, .int .u8 b2, .int .u8 b3]] w fun e w' => e = .returned (.agg #[.bool false, .int .u64 0, .int .u64 (nr + 167772160)]) ∧ Plus w w' := by
  go_enter Tryz.func49, Tryz.ntmps49

  go_wp2_with fail
  exact bodyPost_ret (v := .agg #[.bool false, .int .u64 0, .int .u64 (nr + 167772160)]) (by simp [results, Tryz.results49, go_sem, IntWalk.iteOmega, ↓IntWalk.iteOmega]) rfl ⟨rfl, by repeat (first | exact Plus.refl _ | refine Plus.alloc ?_ _ | refine Plus.plus ?_ _ _ | refine Plus.drew ?_ | refine Plus.drewN ?_ _)⟩

theorem c49_01 (b0 b1 b2 b3 : Int) (x0 : 0 ≤ b0) (y0 : b0 < 256) (x1 : 0 ≤ b1) (y1 : b1 < 256) (x2 : 0 ≤ b2) (y2 : b2 < 256) (x3 : 0 ≤ b3) (y3 : b3 < 256) (nr : Int) (n0 : 0 ≤ nr) (n1 : nr < 1024) (hn : bits .or .u64 b1 (b2 % 4 * 256) = nr) (h0 : b0 % 2 = 0) (h3 : b3 % 6 = 1) (w : World) : Calls Tryz.prog 49 #[.agg #[.int .u8 b0, .int .u8 b1, .int .u8 b2, .int .u8 b3]] w fun e w' => e = .returned (.agg #[.bool false, .int .u64 0, .int .u64 (nr + 167772160)]) ∧ Plus w w' := by
  go_enter Tryz.func49, Tryz.ntmps49

  go_wp2_with fail
  exact bodyPost_ret (v := .agg #[.bool false, .int .u64 0, .int .u64 (nr + 167772160)]) (by simp [results, Tryz.results49, go_sem, IntWalk.iteOmega, ↓IntWalk.iteOmega]) rfl ⟨rfl, by repeat (first | exact Plus.refl _ | refine Plus.alloc ?_ _ | refine Plus.plus ?_ _ _ | refine Plus.drew ?_ | refine Plus.drewN ?_ _)⟩

theorem c49_02 (b0 b1 b2 b3 : Int) (x0 : 0 ≤ b0) (y0 : b0 < 256) (x1 : 0 ≤ b1) (y1 : b1 < 256) (x2 : 0 ≤ b2) (y2 : b2 < 256) (x3 : 0 ≤ b3) (y3 : b3 < 256) (nr : Int) (n0 : 0 ≤ nr) (n1 : nr < 1024) (hn : bits .or .u64 b1 (b2 % 4 * 256) = nr) (h0 : b0 % 2 = 0) (h3 : b3 % 6 = 2) (w : World) : Calls Tryz.prog 49 #[.agg #[.int .u8 b0, .int .u8 b1, .int .u8 b2, .int .u8 b3]] w fun e w' => e = .returned (.agg #[.bool false, .int .u64 0, .int .u64 (4294967295 - nr)]) ∧ Plus w w' := by
  go_enter Tryz.func49, Tryz.ntmps49

  go_wp2_with fail
  exact bodyPost_ret (v := .agg #[.bool false, .int .u64 0, .int .u64 (4294967295 - nr)]) (by simp [results, Tryz.results49, go_sem, IntWalk.iteOmega, ↓IntWalk.iteOmega]) rfl ⟨rfl, by repeat (first | exact Plus.refl _ | refine Plus.alloc ?_ _ | refine Plus.plus ?_ _ _ | refine Plus.drew ?_ | refine Plus.drewN ?_ _)⟩

theorem c49_03 (b0 b1 b2 b3 : Int) (x0 : 0 ≤ b0) (y0 : b0 < 256) (x1 : 0 ≤ b1) (y1 : b1 < 256) (x2 : 0 ≤ b2) (y2 : b2 < 256) (x3 : 0 ≤ b3) (y3 : b3 < 256) (nr : Int) (n0 : 0 ≤ nr) (n1 : nr < 1024) (hn : bits .or .u64 b1 (b2 % 4 * 256) = nr) (h0 : b0 % 2 = 0) (h3 : b3 % 6 = 3) (w : World) : Calls Tryz.prog 49 #[.agg #[.int .u8 b0, .int .u8 b1, .int .u8 b2, .int .u8 b3]] w fun e w' => e = .returned (.agg #[.bool false, .int .u64 0, .int .u64 nr]) ∧ Plus w w' := by
  go_enter Tryz.func49, Tryz.ntmps49

  go_wp2_with fail
  exact bodyPost_ret (v := .agg #[.bool false, .int .u64 0, .int .u64 nr]) (by simp [results, Tryz.results49, go_sem, IntWalk.iteOmega, ↓IntWalk.iteOmega]) rfl ⟨rfl, by repeat (first | exact Plus.refl _ | refine Plus.alloc ?_ _ | refine Plus.plus ?_ _ _ | refine Plus.drew ?_ | refine Plus.drewN ?_ _)⟩

theorem c49_04 (b0 b1 b2 b3 : Int) (x0 : 0 ≤ b0) (y0 : b0 < 256) (x1 : 0 ≤ b1) (y1 : b1 < 256) (x2 : 0 ≤ b2) (y2 : b2 < 256) (x3 : 0 ≤ b3) (y3 : b3 < 256) (nr : Int) (n0 : 0 ≤ nr) (n1 : nr < 1024) (hn : bits .or .u64 b1 (b2 % 4 * 256) = nr) (h0 : b0 % 2 = 0) (h3 : b3 % 6 = 4) (w : World) : Calls Tryz.prog 49 #[.agg #[.int .u8 b0, .int .u8 b1, .int .u8 b2, .int .u8 b3]] w fun e w' => e = .returned (.agg #[.bool false, .int .u64 0, .int .u64 (bits .and .u64 (nr * 65536) 4294967295)]) ∧ Plus w w' := by
  go_enter Tryz.func49, Tryz.ntmps49

  go_wp2_with fail
  exact bodyPost_ret (v := .agg #[.bool false, .int .u64 0, .int .u64 (bits .and .u64 (nr * 65536) 4294967295)]) (by simp [results, Tryz.results49, go_sem, IntWalk.iteOmega, ↓IntWalk.iteOmega]) rfl ⟨rfl, by repeat (first | exact Plus.refl _ | refine Plus.alloc ?_ _ | refine Plus.plus ?_ _ _ | refine Plus.drew ?_ | refine Plus.drewN ?_ _)⟩

theorem c49_05 (b0 b1 b2 b3 : Int) (x0 : 0 ≤ b0) (y0 : b0 < 256) (x1 : 0 ≤ b1) (y1 : b1 < 256) (x2 : 0 ≤ b2) (y2 : b2 < 256) (x3 : 0 ≤ b3) (y3 : b3 < 256) (nr : Int) (n0 : 0 ≤ nr) (n1 : nr < 1024) (hn : bits .or .u64 b1 (b2 % 4 * 256) = nr) (h0 : b0 % 2 = 0) (h3 : b3 % 6 = 5) (w : World) : Calls Tryz.prog 49 #[.agg #[.int .u8 b0, .int .u8 b1, .int .u8 b2, .int .u8 b3]] w fun e w' => e = .returned (.agg #[.bool false, .int .u64 0, .int .u64 nr]) ∧ Plus w w' := by
  go_enter Tryz.func49, Tryz.ntmps49

  go_wp2_with fail
  exact bodyPost_ret (v := .agg #[.bool false, .int .u64 0, .int .u64 nr]) (by simp [results, Tryz.results49, go_sem, IntWalk.iteOmega, ↓IntWalk.iteOmega]) rfl ⟨rfl, by repeat (first | exact Plus.refl _ | refine Plus.alloc ?_ _ | refine Plus.plus ?_ _ _ | refine Plus.drew ?_ | refine Plus.drewN ?_ _)⟩

theorem k49 (b0 b1 b2 b3 : Int) (x0 : 0 ≤ b0) (y0 : b0 < 256) (x1 : 0 ≤ b1) (y1 : b1 < 256) (x2 : 0 ≤ b2) (y2 : b2 < 256) (x3 : 0 ≤ b3) (y3 : b3 < 256) (w : World) : Calls Tryz.prog 49 #[.agg #[.int .u8 b0, .int .u8 b1, .int .u8 b2, .int .u8 b3]] w fun e w' => ∃ k, e = .returned (.agg #[.bool (sK k), .int .u64 (hK k), .int .u64 (mK k)]) ∧ Hid (okK k ∧ sK k = decide (b0 % 2 = 1) ∧ Plus w w') := by
  have hn := near_in b1 b2 x1 y1 x2 y2
  have n0 : 0 ≤ b1 + b2 % 4 * 256 := by omega
  have n1 : b1 + b2 % 4 * 256 < 1024 := by omega
  generalize b1 + b2 % 4 * 256 = nr at *
  have fin : ∀ (s : Bool) (x y : Int) (hs : s = decide (b0 % 2 = 1)) (hk : ∃ k, okK k ∧ sK k = s ∧ hK k = x ∧ mK k = y), (∀ w, Calls Tryz.prog 49 #[.agg #[.int .u8 b0, .int .u8 b1, .int .u8 b2, .int .u8 b3]] w fun e w' => e = .returned (.agg #[.bool s, .int .u64 x, .int .u64 y]) ∧ Plus w w') → Calls Tryz.prog 49 #[.agg #[.int .u8 b0, .int .u8 b1, .int .u8 b2, .int .u8 b3]] w fun e w' => ∃ k, e = .returned (.agg #[.bool (sK k), .int .u64 (hK k), .int .u64 (mK k)]) ∧ Hid (okK k ∧ sK k = decide (b0 % 2 = 1) ∧ Plus w w') := by
    rintro s x y hs ⟨k, a, b, c, d⟩ H
    refine (H w).mono ?_
    rintro e w' ⟨rfl, P⟩
    exact ⟨k, by rw [b, c, d], a, b.trans hs, P⟩
  have q0 : b0 % 2 = 0 ∨ b0 % 2 = 1 := by omega
  have q3 : b3 % 6 = 0 ∨ b3 % 6 = 1 ∨ b3 % 6 = 2 ∨ b3 % 6 = 3 ∨ b3 % 6 = 4 ∨ b3 % 6 = 5 := by omega
  rcases q0 with h0 | h0
  · have hs : false = decide (b0 % 2 = 1) := (decide_eq_false (by omega)).symm
    rcases q3 with h3 | h3 | h3 | h3 | h3 | h3
    · exact fin _ _ _ hs (key4 _ (by omega) (by omega)) (c49_00 b0 b1 b2 b3 x0 y0 x1 y1 x2 y2 x3 y3 nr n0 n1 hn h0 h3)
    · exact fin _ _ _ hs (key4 _ (by omega) (by omega)) (c49_01 b0 b1 b2 b3 x0 y0 x1 y1 x2 y2 x3 y3 nr n0 n1 hn h0 h3)
    · exact fin _ _ _ hs (key4 _ (by omega) (by omega)) (c49_02 b0 b1 b2 b3 x0 y0 x1 y1 x2 y2 x3 y3 nr n0 n1 hn h0 h3)
    · exact fin _ _ _ hs (key4 _ (by omega) (by omega)) (c49_03 b0 b1 b2 b3 x0 y0 x1 y1 x2 y2 x3 y3 nr n0 n1 hn h0 h3)
    · have e : bits .and .u64 (nr * 65536) 4294967295 = nr * 65536 := by rw [and32 _ (by omega) (by omega)]; omega
      exact fin _ _ _ hs (key4 _ (by rw [e]; omega) (by rw [e]; omega)) (c49_04 b0 b1 b2 b3 x0 y0 x1 y1 x2 y2 x3 y3 nr n0 n1 hn h0 h3)
    · exact fin _ _ _ hs (key4 _ (by omega) (by omega)) (c49_05 b0 b1 b2 b3 x0 y0 x1 y1 x2 y2 x3 y3 nr n0 n1 hn h0 h3)
  · have hs : true = decide (b0 % 2 = 1) := (decide_eq_true h0).symm
    rcases q3 with h3 | h3 | h3 | h3 | h3 | h3
    · exact fin _ _ _ hs (key6 _ _ (by omega) (by omega) (by omega) (by omega)) (c49_10 b0 b1 b2 b3 x0 y0 x1 y1 x2 y2 x3 y3 nr n0 n1 hn h0 h3)
    · exact fin _ _ _ hs (key6 _ _ (by omega) (by omega) (by omega) (by omega)) (c49_11 b0 b1 b2 b3 x0 y0 x1 y1 x2 y2 x3 y3 nr n0 n1 hn h0 h3)
    · have e := not64 nr n0 (by omega)
      exact fin _ _ _ hs (key6 _ _ (by omega) (by omega) (by rw [e]; omega) (by rw [e]; omega)) (c49_12 b0 b1 b2 b3 x0 y0 x1 y1 x2 y2 x3 y3 nr n0 n1 hn h0 h3)
    · exact fin _ _ _ hs (key6 _ _ (by omega) (by omega) (by omega) (by omega)) (c49_13 b0 b1 b2 b3 x0 y0 x1 y1 x2 y2 x3 y3 nr n0 n1 hn h0 h3)
    · exact fin _ _ _ hs (key6 _ _ (by omega) (by omega) (by omega) (by omega)) (c49_14 b0 b1 b2 b3 x0 y0 x1 y1 x2 y2 x3 y3 nr n0 n1 hn h0 h3)
    · exact fin _ _ _ hs (key6 _ _ (by omega) (by omega) (by omega) (by omega)) (c49_15 b0 b1 b2 b3 x0 y0 x1 y1 x2 y2 x3 y3 nr n0 n1 hn h0 h3)
theorem k22 (b0 b1 b2 b3 b4 b5 b6 b7 : Int) (x0 : 0 ≤ b0) (y0 : b0 < 256) (x1 : 0 ≤ b1) (y1 : b1 < 256) (x2 : 0 ≤ b2) (y2 : b2 < 256) (x3 : 0 ≤ b3) (y3 : b3 < 256) (x4 : 0 ≤ b4) (y4 : b4 < 256) (x5 : 0 ≤ b5) (y5 : b5 < 256) (x6 : 0 ≤ b6) (y6 : b6 < 256) (x7 : 0 ≤ b7) (y7 : b7 < 256) (w : World) : Calls Tryz.prog 22 #[.agg #[.int .u8 b0, .int .u8 b1, .int .u8 b2, .int .u8 b3, .int .u8 b4, .int .u8 b5, .int .u8 b6, .int .u8 b7]] w fun e w' => ∃ r, e = .returned (.agg #[.bool (sK r.1), .int .u64 (hK r.1), .int .u64 (mK r.1), .bool (sK r.2), .int .u64 (hK r.2), .int .u64 (mK r.2)]) ∧ Hid (okR r ∧ Plus w w') := by
  go_enter Tryz.func22, Tryz.ntmps22

  go_wp2_with fail
  refine (k49 b0 b1 b2 b3 x0 y0 x1 y1 x2 y2 x3 y3 _).mono ?_
  rintro e w1 ⟨a, rfl, Z⟩
  obtain ⟨o1, s1, P1⟩ := Z.out
  obtain ⟨d1, q1, rfl⟩ := P1
  have S1 : Hid _ := s1
  clear Z s1
  go_wp2_with fail
  refine (k49 b0 b5 b6 b7 x0 y0 x5 y5 x6 y6 x7 y7 _).mono ?_
  rintro e w1 ⟨b, rfl, Z⟩
  obtain ⟨o2, s2, P2⟩ := Z.out
  obtain ⟨d2, q2, rfl⟩ := P2
  have S2 : Hid _ := s2
  clear Z s2
  go_wp2_with fail
  refine wp_region_plus_tail 7 (by kernel_rfl) (by kernel_rfl) ?_
  simp only [List.take_succ_cons, List.take_zero, List.drop_succ_cons, List.drop_zero]
  repeat (go_big_quiet_step (first | (go_at_call 50; (with_reducible exact Calls.plus_of (k50 a b o1 o2 _))) | (go_at_call 51; (with_reducible exact Calls.plus_of (k51 a b o1 o2 _)))))
  refine wpQuiet_nil ?_
  intro _ hq
  obtain ⟨⟨dq, oq⟩, rfl⟩ := hq
  go_wp2_with fail
  have F : okR (min a b, max a b) := by
    have e : sK a = sK b := S1.out.trans S2.out.symm
    by_cases q : a ≤ b
    · rw [show min a b = a by omega, show max a b = b by omega]; exact ⟨o1, o2, e, q⟩
    · rw [show min a b = b by omega, show max a b = a by omega]; exact ⟨o2, o1, e.symm, by show b ≤ a; omega⟩
  have HF : Hid _ := F
  clear F
  exact bodyPost_ret (v := .agg #[.bool (sK (min a b, max a b).1), .int .u64 (hK (min a b, max a b).1), .int .u64 (mK (min a b, max a b).1), .bool (sK (min a b, max a b).2), .int .u64 (hK (min a b, max a b).2), .int .u64 (mK (min a b, max a b).2)]) (by simp [results, Tryz.results22, go_sem, IntWalk.iteOmega, ↓IntWalk.iteOmega]) rfl ⟨_, rfl, HF.out, by repeat (first | exact Plus.refl _ | refine Plus.alloc ?_ _ | refine Plus.plus ?_ _ _ | refine Plus.drew ?_ | refine Plus.drewN ?_ _)⟩
end Go.Proofs.YtmoabfpdlbngeaaGreatDoor
end
