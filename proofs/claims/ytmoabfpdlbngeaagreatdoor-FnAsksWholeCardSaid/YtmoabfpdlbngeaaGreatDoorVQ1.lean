/-
  Part of the proofs on the laws of pub-addresssets: joined texts (Q1).
-/
import Derived.Test.YtmoabfpdlbngeaaGreatDoorVSJ
import Derived.Test.YtmoabfpdlbngeaaGreatDoorVP2
section
namespace Go.Proofs.YtmoabfpdlbngeaaGreatDoor
open Go.RowKit
set_option maxHeartbeats 400000
set_option linter.unusedVariables false
set_option linter.unusedSimpArgs false
theorem W64.nat {x : Nat} (h : x < 18446744073709551616) : W64 (x : Int) := ⟨by omega, by omega⟩
theorem k110 (HA LA HB LB : Nat) (a1 : HA < 18446744073709551616) (a2 : LA < 18446744073709551616) (b1 : HB < 18446744073709551616) (b2 : LB < 18446744073709551616) (c : Nat) (hc : cpl (HA : Int) (LA : Int) (HB : Int) (LB : Int) = (c : Int)) (z : Bool) (hz : cpZ (HA : Int) (LA : Int) (HB : Int) (LB : Int) = z) (w : World) : Calls Tryz.prog 110 #[.agg #[.int .u64 ((HA : Nat) : Int), .int .u64 ((LA : Nat) : Int)], .agg #[.int .u64 ((HB : Nat) : Int), .int .u64 ((LB : Nat) : Int)]] w fun e w' => e = .returned (.tuple #[.int .u8 (c : Int), .bool z]) ∧ Plus w w' := by
  have hq := c110 (HA : Int) (LA : Int) (HB : Int) (LB : Int) (.nat a1) (.nat a2) (.nat b1) (.nat b2) w
  rw [hc, hz] at hq
  exact hq
theorem mk_top (q : Nat) (hq : q ≤ 64) : (2 ^ 64 - 1) * 2 ^ q % 2 ^ 64 = 18446744073709551616 - 2 ^ q := by
  have h1 := and_lo 18446744073709551615 q (by omega) hq
  rw [top_max q hq] at h1
  have h2 := Nat.and_two_pow_sub_one_eq_mod ((2 ^ 64 - 1) * 2 ^ q % 2 ^ 64) 64
  rw [Nat.mod_mod, Nat.and_comm] at h2
  rw [← h2]
  exact h1
theorem nt_mk (q : Nat) (hq : q ≤ 64) : nt64 (((2 ^ 64 - 1) * 2 ^ q % 2 ^ 64 : Nat) : Int) = ((2 ^ q - 1 : Nat) : Int) := by
  unfold nt64
  have hp := Nat.two_pow_pos q
  have hle : 2 ^ q ≤ 18446744073709551616 := Nat.pow_le_pow_right (show 0 < 2 by omega) hq
  rw [mk_top q hq, not64 _ (by omega) (by omega)]
  omega
theorem k169 (H L n : Nat) (h1 : H < 18446744073709551616) (h2 : L < 18446744073709551616) (hn : n ≤ 128) (w : World) : Calls Tryz.prog 169 #[.agg #[.int .u64 ((H : Nat) : Int), .int .u64 ((L : Nat) : Int)], .int .u8 (n : Int)] w fun e w' => e = .returned (.agg #[.int .u64 ((lastH n H : Nat) : Int), .int .u64 ((lastL n L : Nat) : Int)]) ∧ Plus w w' := by
  have hq := c169 (H : Int) (L : Int) (n : Int) (by omega) (by omega) w
  have e1 : bits .or .u64 (H : Int) (nt64 (mkH (n : Int))) = ((lastH n H : Nat) : Int) := by
    have hle : 2 ^ (64 - n) ≤ 18446744073709551616 := Nat.pow_le_pow_right (show 0 < 2 by omega) (show 64 - n ≤ 64 by omega)
    rw [mkH_val n hn, nt_mk _ (by omega), u64_or_nat _ _ h1 (by have := Nat.two_pow_pos (64 - n); omega)]
    rfl
  have e2 : bits .or .u64 (L : Int) (nt64 (mkL (n : Int))) = ((lastL n L : Nat) : Int) := by
    rw [mkL_val n hn]
    unfold lastL
    by_cases h : n ≤ 64
    · rw [if_pos h, show min 64 (128 - n) = 64 by omega]
      have : nt64 0 = ((2 ^ 64 - 1 : Nat) : Int) := by unfold nt64; rw [not64 0 (by omega) (by omega)]; rfl
      rw [this, u64_or_nat _ _ h2 (by omega)]
    · have hle : 2 ^ (128 - n) ≤ 18446744073709551616 := Nat.pow_le_pow_right (show 0 < 2 by omega) (show 128 - n ≤ 64 by omega)
      rw [if_neg h, nt_mk _ (by omega), u64_or_nat _ _ h2 (by have := Nat.two_pow_pos (128 - n); omega), show min 64 (128 - n) = 128 - n by omega]
  rw [e1, e2] at hq
  exact hq
theorem k170 (H L n : Nat) (h1 : H < 18446744073709551616) (h2 : L < 18446744073709551616) (hn : n ≤ 128) (w : World) : Calls Tryz.prog 170 #[.agg #[.int .u64 ((H : Nat) : Int), .int .u64 ((L : Nat) : Int)], .int .u8 (n : Int)] w fun e w' => e = .returned (.agg #[.int .u64 ((topH H n : Nat) : Int), .int .u64 ((topL L n : Nat) : Int)]) ∧ Plus w w' := by
  have hq := c170 (H : Int) (L : Int) (n : Int) (by omega) (by omega) w
  rw [and_mkH H n h1 hn, and_mkL L n h2 hn] at hq
  exact hq
theorem or_ones (x q : Nat) : x ||| (2 ^ q - 1) = x / 2 ^ q * 2 ^ q + (2 ^ q - 1) := by
  rw [← or_low]
  apply Nat.eq_of_testBit_eq
  intro i
  rw [Nat.testBit_or, Nat.testBit_or, Nat.testBit_two_pow_sub_one, Nat.testBit_mul_two_pow, Nat.testBit_div_two_pow]
  by_cases h : i < q
  · rw [decide_eq_true h, Bool.or_true, Bool.or_true]
  · rw [decide_eq_false h, decide_eq_true (show i ≥ q by omega), show i - q + q = i by omega]
    simp
theorem last_all (H L n : Nat) (h2 : L < 18446744073709551616) (hn : n ≤ 128) : lastH n H * 18446744073709551616 + lastL n L = (H * 18446744073709551616 + L) / 2 ^ (128 - n) * 2 ^ (128 - n) + (2 ^ (128 - n) - 1) := by
  have e1 : lastH n H = lastH n (topH H n) := by
    unfold lastH topH
    rw [or_ones, or_low]
  have e2 : lastL n L = lastL n (topL L n) := by
    unfold lastL topL
    by_cases h : n ≤ 64
    · rw [if_pos h, show min 64 (128 - n) = 64 by omega, Nat.zero_or, or_ones, Nat.div_eq_of_lt h2, Nat.zero_mul, Nat.zero_add]
    · rw [if_neg h, show min 64 (128 - n) = 128 - n by omega, or_ones, or_low]
  rw [e1, e2, top_val H L n h2 hn, last_val H L n hn]
/-- Prefixes of the package, as rows: key and bits. -/
def pfC (a : Nat × Nat) : List Value := pfL a.1 a.2
def layP : Lay (Nat × Nat) := ⟨pfC, 6, fun _ => rfl, fun a u hu => by
  simp only [pfC, pfL, List.mem_cons, List.not_mem_nil, or_false] at hu
  rcases hu with rfl | rfl | rfl | rfl | rfl | rfl <;> simp [Value.oneCell'], by omega⟩
theorem infoP : InfoD layP 93 48 := InfoD.mk (c := 6) rfl (by kernel_rfl)
theorem under84 : Tryz.prog.underlying 84 = some (.slice 93) := by kernel_rfl
/-- The prefix of a family that a block of 128 bits is. -/
def keyV (s : Bool) (V : Nat) : Nat := cond s (8589934592 + V) (V % 4294967296)
def pfV (s : Bool) (x : Nat × Nat) : Nat × Nat := (keyV s x.1, cond s (128 - x.2) (32 - x.2))
def famV (s : Bool) (A B : Nat) : Prop := s = false → 281470681743360 ≤ A ∧ B < 281474976710656
theorem pfV6 (V q : Nat) : pfV true (V, q) = (8589934592 + V, 128 - q) := rfl
theorem pfV4 (V q : Nat) : pfV false (V, q) = (V % 4294967296, 32 - q) := rfl
theorem k111_6 (r : Nat × Nat) (hs1 : sK r.1 = true) (hs2 : sK r.2 = true) (H L q : Nat) (h1 : H < 18446744073709551616) (h2 : L < 18446744073709551616) (hq : q ≤ 128) (V : Nat) (hV : H * 18446744073709551616 + L = V) (w : World) :
    Calls Tryz.prog 111 #[.agg #[.int .u64 (hK r.1), .int .u64 (lK r.1), .bool true, .bool (sK r.1), .string ⟨#[]⟩, .int .u64 (hK r.2), .int .u64 (lK r.2), .bool true, .bool (sK r.2), .string ⟨#[]⟩], .agg #[.int .u64 ((H : Nat) : Int), .int .u64 ((L : Nat) : Int)], .int .u8 ((128 - q : Nat) : Int)] w fun e w' => e = .returned (.agg (pfC (pfV true (V, q))).toArray) ∧ Plus w w' := by
  have hq' := c111_6 (hK r.1) (lK r.1) (hK r.2) (lK r.2) (H : Int) (L : Int) ((128 - q : Nat) : Int) (.nat h1) (.nat h2) (by omega) (by omega) w
  obtain ⟨_, p2, p3, p4⟩ := pf6_key h1 h2
  rw [hV] at p2 p3 p4
  rw [pfV6]
  have e : (pfC (8589934592 + V, 128 - q)).toArray = #[.int .u64 (H : Int), .int .u64 (L : Int), .bool true, .bool true, .string ⟨#[]⟩, .int .u8 (((128 - q : Nat) : Int) + 1)] := by
    show (#[.int .u64 (hK (8589934592 + V)), .int .u64 (lK (8589934592 + V)), .bool true, .bool (sK (8589934592 + V)), .string ⟨#[]⟩, .int .u8 (((128 - q : Nat) : Int) + 1)] : Array Value) = _
    rw [p2, p3, p4]
  rw [e, hs1, hs2]
  exact hq'
theorem k111_4 (r : Nat × Nat) (hs1 : sK r.1 = false) (hs2 : sK r.2 = false) (L q : Nat) (hq : q ≤ 32) (w : World) :
    Calls Tryz.prog 111 #[.agg #[.int .u64 (hK r.1), .int .u64 (lK r.1), .bool true, .bool (sK r.1), .string ⟨#[]⟩, .int .u64 (hK r.2), .int .u64 (lK r.2), .bool true, .bool (sK r.2), .string ⟨#[]⟩], .agg #[.int .u64 ((0 : Nat) : Int), .int .u64 ((L : Nat) : Int)], .int .u8 ((128 - q : Nat) : Int)] w fun e w' => e = .returned (.agg (pfC (pfV false (L, q))).toArray) ∧ Plus w w' := by
  have hq' := c111_4 (hK r.1) (lK r.1) (hK r.2) (lK r.2) ((0 : Nat) : Int) (L : Int) ((128 - q : Nat) : Int) (by omega) (by omega) w
  rw [pfV4]
  have lt : L % 4294967296 < 4294967296 := Nat.mod_lt _ (by omega)
  have e0 : (L : Int) % 4294967296 = ((L % 4294967296 : Nat) : Int) := by omega
  rw [e0] at hq'
  generalize L % 4294967296 = X at *
  have e1 : hK X = 0 := by unfold hK; rw [if_neg (by omega)]
  have e2 : lK X = 281470681743360 + ((X : Nat) : Int) := by unfold lK; rw [if_neg (by omega)]
  have e3 : sK X = false := decide_eq_false (by omega)
  have e : (pfC (X, 32 - q)).toArray = #[.int .u64 0, .int .u64 (281470681743360 + ((X : Nat) : Int)), .bool true, .bool false, .string ⟨#[]⟩, .int .u8 (((128 - q : Nat) : Int) - 96 + 1)] := by
    show (#[.int .u64 (hK X), .int .u64 (lK X), .bool true, .bool (sK X), .string ⟨#[]⟩, .int .u8 (((32 - q : Nat) : Int) + 1)] : Array Value) = _
    rw [e1, e2, e3, show ((128 - q : Nat) : Int) - 96 + 1 = ((32 - q : Nat) : Int) + 1 by omega]
  rw [e, hs1, hs2]
  exact hq'
theorem k111 (r : Nat × Nat) (s : Bool) (hs1 : sK r.1 = s) (hs2 : sK r.2 = s) (H L q : Nat) (h1 : H < 18446744073709551616) (h2 : L < 18446744073709551616) (hq : q ≤ 128) (V : Nat) (hV : H * 18446744073709551616 + L = V) (hf : s = false → V < 281474976710656 ∧ q ≤ 32) (w : World) :
    Calls Tryz.prog 111 #[.agg #[.int .u64 (hK r.1), .int .u64 (lK r.1), .bool true, .bool (sK r.1), .string ⟨#[]⟩, .int .u64 (hK r.2), .int .u64 (lK r.2), .bool true, .bool (sK r.2), .string ⟨#[]⟩], .agg #[.int .u64 ((H : Nat) : Int), .int .u64 ((L : Nat) : Int)], .int .u8 ((128 - q : Nat) : Int)] w fun e w' => e = .returned (.agg (pfC (pfV s (V, q))).toArray) ∧ Plus w w' := by
  cases s
  · obtain ⟨f2, f3⟩ := hf rfl
    have hH : H = 0 := by omega
    have hL : L = V := by omega
    subst hH hL
    exact k111_4 r hs1 hs2 L q f3 w
  · exact k111_6 r hs1 hs2 H L q h1 h2 hq V hV w
end Go.Proofs.YtmoabfpdlbngeaaGreatDoor
end
