/-
  Part of the proofs on the laws of pub-addresssets: joined texts (Q1, Q2).
-/
import Derived.Test.YtmoabfpdlbngeaaGreatDoorVSJ
import Derived.Test.YtmoabfpdlbngeaaGreatDoorVP2
section
namespace Go.Proofs.YtmoabfpdlbngeaaGreatDoor
open Go.RowKit
set_option maxHeartbeats 400000
set_option linter.unusedVariables false
set_option linter.unusedSimpArgs false
theorem W64.nat {x : Nat} (h : x < 18446744073709551616) : W64 (x : Int) := ⟨by omega, by omega⟩
theorem k110 (HA LA HB LB : Nat) (a1 : HA < 18446744073709551616) (a2 : LA < 18446744073709551616) (b1 : HB < 18446744073709551616) (b2 : LB < 18446744073709551616) (c : Nat) (hc : cpl (HA : Int) (LA : Int) (HB : Int) (LB : Int) = (c : Int)) (z : Bool) (hz : cpZ (HA : Int) (LA : Int) (HB : Int) (LB : Int) = z) (w : World) : Calls Tryz.prog 110 #[.agg #[.int .u64 ((HA : Nat) : Int), .int .u64 ((LA : Nat) : Int)], .agg #[.int .u64 ((HB : Nat) : Int), .int .u64 ((LB : Nat) : Int)]] w fun e w' => e = .returned (.tuple #[.int .u8 (c : Int), .bool z]) ∧ Plus w w' := by
  have hq := c110 (HA : Int) (LA : Int) (HB : Int) (LB : Int) (.nat a1) (.nat a2) (.nat b1) (.nat b2) w
  rw [hc, hz] at hq
  exact hq
theorem mk_top (q : Nat) (hq : q ≤ 64) : (2 ^ 64 - 1) * 2 ^ q % 2 ^ 64 = 18446744073709551616 - 2 ^ q := by
  have h1 := and_lo 18446744073709551615 q (by omega) hq
  rw [top_max q hq] at h1
  have h2 := Nat.and_two_pow_sub_one_eq_mod ((2 ^ 64 - 1) * 2 ^ q % 2 ^ 64) 64
  rw [Nat.mod_mod, Nat.and_comm] at h2
  rw [← h2]
  exact h1
theorem nt_mk (q : Nat) (hq : q ≤ 64) : nt64 (((2 ^ 64 - 1) * 2 ^ q % 2 ^ 64 : Nat) : Int) = ((2 ^ q - 1 : Nat) : Int) := by
  unfold nt64
  have hp := Nat.two_pow_pos q
  have hle : 2 ^ q ≤ 18446744073709551616 := Nat.pow_le_pow_right (show 0 < 2 by omega) hq
  rw [mk_top q hq, not64 _ (by omega) (by omega)]
  omega
theorem k169 (H L n : Nat) (h1 : H < 18446744073709551616) (h2 : L < 18446744073709551616) (hn : n ≤ 128) (w : World) : Calls Tryz.prog 169 #[.agg #[.int .u64 ((H : Nat) : Int), .int .u64 ((L : Nat) : Int)], .int .u8 (n : Int)] w fun e w' => e = .returned (.agg #[.int .u64 ((lastH n H : Nat) : Int), .int .u64 ((lastL n L : Nat) : Int)]) ∧ Plus w w' := by
  have hq := c169 (H : Int) (L : Int) (n : Int) (by omega) (by omega) w
  have e1 : bits .or .u64 (H : Int) (nt64 (mkH (n : Int))) = ((lastH n H : Nat) : Int) := by
    have hle : 2 ^ (64 - n) ≤ 18446744073709551616 := Nat.pow_le_pow_right (show 0 < 2 by omega) (show 64 - n ≤ 64 by omega)
    rw [mkH_val n hn, nt_mk _ (by omega), u64_or_nat _ _ h1 (by have := Nat.two_pow_pos (64 - n); omega)]
    rfl
  have e2 : bits .or .u64 (L : Int) (nt64 (mkL (n : Int))) = ((lastL n L : Nat) : Int) := by
    rw [mkL_val n hn]
    unfold lastL
    by_cases h : n ≤ 64
    · rw [if_pos h, show min 64 (128 - n) = 64 by omega]
      have : nt64 0 = ((2 ^ 64 - 1 : Nat) : Int) := by unfold nt64; rw [not64 0 (by omega) (by omega)]; rfl
      rw [this, u64_or_nat _ _ h2 (by omega)]
    · have hle : 2 ^ (128 - n) ≤ 18446744073709551616 := Nat.pow_le_pow_right (show 0 < 2 by omega) (show 128 - n ≤ 64 by omega)
      rw [if_neg h, nt_mk _ (by omega), u64_or_nat _ _ h2 (by have := Nat.two_pow_pos (128 - n); omega), show min 64 (128 - n) = 128 - n by omega]
  rw [e1, e2] at hq
  exact hq
theorem k170 (H L n : Nat) (h1 : H < 18446744073709551616) (h2 : L < 18446744073709551616) (hn : n ≤ 128) (w : World) : Calls Tryz.prog 170 #[.agg #[.int .u64 ((H : Nat) : Int), .int .u64 ((L : Nat) : Int)], .int .u8 (n : Int)] w fun e w' => e = .returned (.agg #[.int .u64 ((topH H n : Nat) : Int), .int .u64 ((topL L n : Nat) : Int)]) ∧ Plus w w' := by
  have hq := c170 (H : Int) (L : Int) (n : Int) (by omega) (by omega) w
  rw [and_mkH H n h1 hn, and_mkL L n h2 hn] at hq
  exact hq
theorem or_ones (x q : Nat) : x ||| (2 ^ q - 1) = x / 2 ^ q * 2 ^ q + (2 ^ q - 1) := by
  rw [← or_low]
  apply Nat.eq_of_testBit_eq
  intro i
  rw [Nat.testBit_or, Nat.testBit_or, Nat.testBit_two_pow_sub_one, Nat.testBit_mul_two_pow, Nat.testBit_div_two_pow]
  by_cases h : i < q
  · rw [decide_eq_true h, Bool.or_true, Bool.or_true]
  · rw [decide_eq_false h, decide_eq_true (show i ≥ q by omega), show i - q + q = i by omega]
    simp
theorem last_all (H L n : Nat) (h2 : L < 18446744073709551616) (hn : n ≤ 128) : lastH n H * 18446744073709551616 + lastL n L = (H * 18446744073709551616 + L) / 2 ^ (128 - n) * 2 ^ (128 - n) + (2 ^ (128 - n) - 1) := by
  have e1 : lastH n H = lastH n (topH H n) := by
    unfold lastH topH
    rw [or_ones, or_low]
  have e2 : lastL n L = lastL n (topL L n) := by
    unfold lastL topL
    by_cases h : n ≤ 64
    · rw [if_pos h, show min 64 (128 - n) = 64 by omega, Nat.zero_or, or_ones, Nat.div_eq_of_lt h2, Nat.zero_mul, Nat.zero_add]
    · rw [if_neg h, show min 64 (128 - n) = 128 - n by omega, or_ones, or_low]
  rw [e1, e2, top_val H L n h2 hn, last_val H L n hn]
/-- Prefixes of the package, as rows: key and bits. -/
def pfC (a : Nat × Nat) : List Value := pfL a.1 a.2
def layP : Lay (Nat × Nat) := ⟨pfC, 6, fun _ => rfl, fun a u hu => by
  simp only [pfC, pfL, List.mem_cons, List.not_mem_nil, or_false] at hu
  rcases hu with rfl | rfl | rfl | rfl | rfl | rfl <;> simp [Value.oneCell'], by omega⟩
theorem infoP : InfoD layP 93 48 := InfoD.mk (c := 6) rfl (by kernel_rfl)
theorem under84 : Tryz.prog.underlying 84 = some (.slice 93) := by kernel_rfl
/-- The prefix of a family that a block of 128 bits is. -/
def keyV (s : Bool) (V : Nat) : Nat := cond s (8589934592 + V) (V % 4294967296)
def pfV (s : Bool) (x : Nat × Nat) : Nat × Nat := (keyV s x.1, cond s (128 - x.2) (32 - x.2))
def famV (s : Bool) (A B : Nat) : Prop := s = false → 281470681743360 ≤ A ∧ B < 281474976710656
theorem pfV6 (V q : Nat) : pfV true (V, q) = (8589934592 + V, 128 - q) := rfl
theorem pfV4 (V q : Nat) : pfV false (V, q) = (V % 4294967296, 32 - q) := rfl
theorem k111_6 (r : Nat × Nat) (hs1 : sK r.1 = true) (hs2 : sK r.2 = true) (H L q : Nat) (h1 : H < 18446744073709551616) (h2 : L < 18446744073709551616) (hq : q ≤ 128) (V : Nat) (hV : H * 18446744073709551616 + L = V) (w : World) :
    Calls Tryz.prog 111 #[.agg #[.int .u64 (hK r.1), .int .u64 (lK r.1), .bool true, .bool (sK r.1), .string ⟨#[]⟩, .int .u64 (hK r.2), .int .u64 (lK r.2), .bool true, .bool (sK r.2), .string ⟨#[]⟩], .agg #[.int .u64 ((H : Nat) : Int), .int .u64 ((L : Nat) : Int)], .int .u8 ((128 - q : Nat) : Int)] w fun e w' => e = .returned (.agg (pfC (pfV true (V, q))).toArray) ∧ Plus w w' := by
  have hq' := c111_6 (hK r.1) (lK r.1) (hK r.2) (lK r.2) (H : Int) (L : Int) ((128 - q : Nat) : Int) (.nat h1) (.nat h2) (by omega) (by omega) w
  obtain ⟨_, p2, p3, p4⟩ := pf6_key h1 h2
  rw [hV] at p2 p3 p4
  rw [pfV6]
  have e : (pfC (8589934592 + V, 128 - q)).toArray = #[.int .u64 (H : Int), .int .u64 (L : Int), .bool true, .bool true, .string ⟨#[]⟩, .int .u8 (((128 - q : Nat) : Int) + 1)] := by
    show (#[.int .u64 (hK (8589934592 + V)), .int .u64 (lK (8589934592 + V)), .bool true, .bool (sK (8589934592 + V)), .string ⟨#[]⟩, .int .u8 (((128 - q : Nat) : Int) + 1)] : Array Value) = _
    rw [p2, p3, p4]
  rw [e, hs1, hs2]
  exact hq'
theorem k111_4 (r : Nat × Nat) (hs1 : sK r.1 = false) (hs2 : sK r.2 = false) (L q : Nat) (hq : q ≤ 32) (w : World) :
    Calls Tryz.prog 111 #[.agg #[.int .u64 (hK r.1), .int .u64 (lK r.1), .bool true, .bool (sK r.1), .string ⟨#[]⟩, .int .u64 (hK r.2), .int .u64 (lK r.2), .bool true, .bool (sK r.2), .string ⟨#[]⟩], .agg #[.int .u64 ((0 : Nat) : Int), .int .u64 ((L : Nat) : Int)], .int .u8 ((128 - q : Nat) : Int)] w fun e w' => e = .returned (.agg (pfC (pfV false (L, q))).toArray) ∧ Plus w w' := by
  have hq' := c111_4 (hK r.1) (lK r.1) (hK r.2) (lK r.2) ((0 : Nat) : Int) (L : Int) ((128 - q : Nat) : Int) (by omega) (by omega) w
  rw [pfV4]
  have lt : L % 4294967296 < 4294967296 := Nat.mod_lt _ (by omega)
  have e0 : (L : Int) % 4294967296 = ((L % 4294967296 : Nat) : Int) := by omega
  rw [e0] at hq'
  generalize L % 4294967296 = X at *
  have e1 : hK X = 0 := by unfold hK; rw [if_neg (by omega)]
  have e2 : lK X = 281470681743360 + ((X : Nat) : Int) := by unfold lK; rw [if_neg (by omega)]
  have e3 : sK X = false := decide_eq_false (by omega)
  have e : (pfC (X, 32 - q)).toArray = #[.int .u64 0, .int .u64 (281470681743360 + ((X : Nat) : Int)), .bool true, .bool false, .string ⟨#[]⟩, .int .u8 (((128 - q : Nat) : Int) - 96 + 1)] := by
    show (#[.int .u64 (hK X), .int .u64 (lK X), .bool true, .bool (sK X), .string ⟨#[]⟩, .int .u8 (((32 - q : Nat) : Int) + 1)] : Array Value) = _
    rw [e1, e2, e3, show ((128 - q : Nat) : Int) - 96 + 1 = ((32 - q : Nat) : Int) + 1 by omega]
  rw [e, hs1, hs2]
  exact hq'
theorem k111 (r : Nat × Nat) (s : Bool) (hs1 : sK r.1 = s) (hs2 : sK r.2 = s) (H L q : Nat) (h1 : H < 18446744073709551616) (h2 : L < 18446744073709551616) (hq : q ≤ 128) (V : Nat) (hV : H * 18446744073709551616 + L = V) (hf : s = false → V < 281474976710656 ∧ q ≤ 32) (w : World) :
    Calls Tryz.prog 111 #[.agg #[.int .u64 (hK r.1), .int .u64 (lK r.1), .bool true, .bool (sK r.1), .string ⟨#[]⟩, .int .u64 (hK r.2), .int .u64 (lK r.2), .bool true, .bool (sK r.2), .string ⟨#[]⟩], .agg #[.int .u64 ((H : Nat) : Int), .int .u64 ((L : Nat) : Int)], .int .u8 ((128 - q : Nat) : Int)] w fun e w' => e = .returned (.agg (pfC (pfV s (V, q))).toArray) ∧ Plus w w' := by
  cases s
  · obtain ⟨f2, f3⟩ := hf rfl
    have hH : H = 0 := by omega
    have hL : L = V := by omega
    subst hH hL
    exact k111_4 r hs1 hs2 L q f3 w
  · exact k111_6 r hs1 hs2 H L q h1 h2 hq V hV w
end Go.Proofs.YtmoabfpdlbngeaaGreatDoor
end

section
namespace Go.Proofs.YtmoabfpdlbngeaaGreatDoor
open Go.RowKit
set_option maxHeartbeats 400000
set_option linter.unusedVariables false
set_option linter.unusedSimpArgs false
theorem k111P (r : Nat × Nat) (s : Bool) (hs1 : sK r.1 = s) (hs2 : sK r.2 = s) (H L c : Nat) (h1 : H < 18446744073709551616) (h2 : L < 18446744073709551616) (hc : c ≤ 128) (V : Nat) (hV : H * 18446744073709551616 + L = V) (hf : s = false → V < 281474976710656 ∧ 128 - c ≤ 32) (P : Nat × Nat) (hP : pfV s (V, 128 - c) = P) (w : World) :
    Calls Tryz.prog 111 #[.agg #[.int .u64 (hK r.1), .int .u64 (lK r.1), .bool true, .bool (sK r.1), .string ⟨#[]⟩, .int .u64 (hK r.2), .int .u64 (lK r.2), .bool true, .bool (sK r.2), .string ⟨#[]⟩], .agg #[.int .u64 ((H : Nat) : Int), .int .u64 ((L : Nat) : Int)], .int .u8 (c : Int)] w fun e w' => e = .returned (.agg #[.int .u64 (hK P.1), .int .u64 (lK P.1), .bool true, .bool (sK P.1), .string ⟨#[]⟩, .int .u8 ((P.2 : Nat) + 1 : Int)]) ∧ Plus w w' := by
  have hq := k111 r s hs1 hs2 H L (128 - c) h1 h2 (by omega) V hV hf w
  rw [hP, show 128 - (128 - c) = c by omega] at hq
  exact hq
theorem k169s (H L c : Nat) (h1 : H < 18446744073709551616) (h2 : L < 18446744073709551616) (hc : c + 1 ≤ 128) (H' L' : Nat) (e1 : lastH (c + 1) H = H') (e2 : lastL (c + 1) L = L') (w : World) : Calls Tryz.prog 169 #[.agg #[.int .u64 ((H : Nat) : Int), .int .u64 ((L : Nat) : Int)], .int .u8 ((c : Int) + 1)] w fun e w' => e = .returned (.agg #[.int .u64 ((H' : Nat) : Int), .int .u64 ((L' : Nat) : Int)]) ∧ Plus w w' := by
  subst e1 e2
  exact k169 H L (c + 1) h1 h2 hc w
theorem k170s (H L c : Nat) (h1 : H < 18446744073709551616) (h2 : L < 18446744073709551616) (hc : c + 1 ≤ 128) (H' L' : Nat) (e1 : topH H (c + 1) = H') (e2 : topL L (c + 1) = L') (w : World) : Calls Tryz.prog 170 #[.agg #[.int .u64 ((H : Nat) : Int), .int .u64 ((L : Nat) : Int)], .int .u8 ((c : Int) + 1)] w fun e w' => e = .returned (.agg #[.int .u64 ((H' : Nat) : Int), .int .u64 ((L' : Nat) : Int)]) ∧ Plus w w' := by
  subst e1 e2
  exact k170 H L (c + 1) h1 h2 hc w
theorem bdV_mono {p q A B : Nat} (h : p ≤ q) : bdV p A B ≤ bdV q A B := by
  unfold bdV
  have a1 : A % 2 ^ q = 0 → A % 2 ^ p = 0 := fun z => mod_pow z h
  have b1 : (B + 1) % 2 ^ q = 0 → (B + 1) % 2 ^ p = 0 := fun z => mod_pow z h
  by_cases z1 : A % 2 ^ q = 0 <;> by_cases z2 : (B + 1) % 2 ^ q = 0
  · rw [if_pos z1, if_pos z2, if_pos (a1 z1), if_pos (b1 z2)]; omega
  · rw [if_pos z1, if_neg z2, if_pos (a1 z1)]; split <;> omega
  · rw [if_neg z1, if_pos z2, if_pos (b1 z2)]; split <;> omega
  · rw [if_neg z1, if_neg z2]; split <;> split <;> omega
theorem bdV_join {q A B M m m' : Nat} (hM : 0 < M) (hz : M % 2 ^ q = 0) (h1 : m ≤ bdV q A (M - 1)) (h2 : m' ≤ bdV q M B) (hne : ¬ (A % 2 ^ (q + 1) = 0 ∧ (B + 1) % 2 ^ (q + 1) = 0)) : m + m' ≤ bdV (q + 1) A B := by
  unfold bdV at *
  have a1 : A % 2 ^ (q + 1) = 0 → A % 2 ^ q = 0 := fun z => mod_pow z (by omega)
  have b1 : (B + 1) % 2 ^ (q + 1) = 0 → (B + 1) % 2 ^ q = 0 := fun z => mod_pow z (by omega)
  rw [if_pos hz] at h2
  rw [show M - 1 + 1 = M by omega, if_pos hz] at h1
  by_cases z1 : A % 2 ^ (q + 1) = 0 <;> by_cases z2 : (B + 1) % 2 ^ (q + 1) = 0
  · exact absurd ⟨z1, z2⟩ hne
  · rw [if_pos z1, if_neg z2]; rw [if_pos (a1 z1)] at h1; split at h2 <;> omega
  · rw [if_neg z1, if_pos z2]; rw [if_pos (b1 z2)] at h2; split at h1 <;> omega
  · rw [if_neg z1, if_neg z2]; split at h1 <;> split at h2 <;> omega
/-- The two halves of a range that is no block: what the recursion goes on with. -/
theorem split_num {HA LA HB LB A B c : Nat} (hA : HA * 18446744073709551616 + LA = A) (hB : HB * 18446744073709551616 + LB = B) (a2 : LA < 18446744073709551616) (b2 : LB < 18446744073709551616) (hc : c < 128) (hAB : A ≤ B) (x1 : A / 2 ^ (128 - c) = B / 2 ^ (128 - c)) (x2 : A / 2 ^ (128 - c - 1) ≠ B / 2 ^ (128 - c - 1)) :
    ∃ M S, 0 < M ∧ M % 2 ^ (127 - c) = 0 ∧ S % 2 ^ (127 - c + 1) = 0 ∧ S ≤ A ∧ A < M ∧ M = S + 2 ^ (127 - c) ∧ M ≤ B ∧ B + 1 ≤ S + 2 ^ (127 - c + 1) ∧ A / 2 ^ (127 - c) = (M - 1) / 2 ^ (127 - c) ∧ M / 2 ^ (127 - c) = B / 2 ^ (127 - c) ∧ lastH (c + 1) HA * 18446744073709551616 + lastL (c + 1) LA = M - 1 ∧ topH HB (c + 1) * 18446744073709551616 + topL LB (c + 1) = M := by
  have t1 := last_all HA LA (c + 1) a2 (by omega)
  have t2 := top_val HB LB (c + 1) b2 (by omega)
  rw [hA] at t1
  rw [hB] at t2
  rw [show 128 - (c + 1) = 127 - c by omega] at t1 t2
  rw [show 128 - c - 1 = 127 - c by omega] at x2
  rw [show 128 - c = 127 - c + 1 by omega] at x1
  obtain ⟨s1, s2, s3, s4, s5, s6⟩ := halves hAB x1 x2
  generalize 127 - c = q at *
  have hp := Nat.two_pow_pos q
  generalize hMM : B / 2 ^ q * 2 ^ q = M at *
  generalize hSS : B / 2 ^ (q + 1) * 2 ^ (q + 1) = S at *
  have hSq : S % 2 ^ q = 0 := mod_pow s1 (by omega)
  have hMz : M % 2 ^ q = 0 := by rw [← hMM]; exact Nat.mul_mod_left ..
  have dA := Nat.div_add_mod A (2 ^ q)
  have mA := Nat.mod_lt A hp
  have eX : A / 2 ^ q * 2 ^ q = S := by
    have z : (A / 2 ^ q * 2 ^ q) % 2 ^ q = 0 := Nat.mul_mod_left ..
    have e0 : A / 2 ^ q * 2 ^ q = 2 ^ q * (A / 2 ^ q) := Nat.mul_comm ..
    rcases Nat.lt_trichotomy (A / 2 ^ q * 2 ^ q) S with l | l | l
    · have := mult_gap z hSq l; omega
    · exact l
    · have := mult_gap hSq z l; omega
  have eS : S / 2 ^ q * 2 ^ q = S := by rw [← eX, Nat.mul_div_cancel _ hp]
  refine ⟨M, S, by omega, hMz, s1, s2, s3, s4, s5, s6, ?_, ?_, by rw [t1, eX]; omega, t2.symm⟩
  · have e1 : A / 2 ^ q = S / 2 ^ q := by rw [← eX, Nat.mul_div_cancel _ hp]
    rw [e1]
    refine (Nat.div_eq_of_lt_le ?_ ?_).symm
    · omega
    · rw [Nat.add_mul, Nat.one_mul, eS]; omega
  · rw [← hMM, Nat.mul_div_cancel _ hp]
/-- What AppendPrefixes leaves behind a row of n. -/
def PfR (w : World) (v : Value) (n : Nat) (h : Nat → Nat × Nat) (s : Bool) (q A B : Nat) (e : Ending) (w' : World) : Prop := ∃ v' m f, e = .returned v' ∧ Hid (Chg (AtV v) w w' ∧ OwnDV layP 93 w' v' (n + m) (appF n h (fun i => pfV s (f i))) ∧ ChV A B m f ∧ m ≤ bdV q A B ∧ Fresh w v v')
theorem Rd.newPf {W : World} {B : Nat} (P : Nat × Nat) (hB : B = W.heap.size) : Rd layP (W.alloc (.cells #[.int .u64 (hK P.1), .int .u64 (lK P.1), .bool true, .bool (sK P.1), .string ⟨#[]⟩, .int .u8 ((P.2 : Nat) + 1 : Int)] 93)) (.slice (some ⟨B, 0, none⟩) 1 1) 1 (fun _ => P) := by
  subst hB
  exact Rd.new (D := layP) (E := 93) W _ P rfl
theorem newUV (W : World) (B H L : Nat) (hB : B = W.heap.size) : (W.alloc (.cells #[.int .u64 ((H : Nat) : Int), .int .u64 ((L : Nat) : Int)] 156)).heap[B]? = some (.cells #[.int .u64 ((H : Nat) : Int), .int .u64 ((L : Nat) : Int)] 156 (0, 0)) := by
  subst hB
  exact heap_alloc_new W _
theorem appF_app {α : Type} (n m : Nat) (h f f' : Nat → α) : appF (n + m) (appF n h f) f' = appF n h (fun j => if j < m then f j else f' (j - m)) := by
  funext j
  unfold appF
  by_cases h1 : j < n
  · rw [if_pos (show j < n + m by omega), if_pos h1, if_pos h1]
  · by_cases h2 : j < n + m
    · rw [if_pos h2, if_neg h1, if_neg h1]
      show f (j - n) = if j - n < m then f (j - n) else f' (j - n - m)
      rw [if_pos (show j - n < m by omega)]
    · rw [if_neg h2, if_neg h1]
      show f' (j - (n + m)) = if j - n < m then f (j - n) else f' (j - n - m)
      rw [if_neg (show ¬ j - n < m by omega)]
      congr 1; omega
theorem fresh_of {w : World} {v v' : Value} {H : Nat} (h : v'.ownBlock = v.ownBlock ∨ v'.ownBlock = some H) (l : w.heap.size ≤ H) : Fresh w v v' := h.elim .inl fun e => .inr ⟨H, e, l⟩
theorem pf_join {w w2 w3 : World} {v v2 v3 : Value} {n m1 m2 : Nat} {h f1 f2 : Nat → Nat × Nat} {s : Bool} {q A B M S q' : Nat} (C1 : Chg (AtV v) w w2) (C2 : Chg (AtV v2) w2 w3) (F1 : Fresh w v v2) (F2 : Fresh w2 v2 v3) (K1 : ChV A (M - 1) m1 f1)
    (O : OwnDV layP 93 w3 v3 (n + m1 + m2) (appF (n + m1) (appF n h (fun i => pfV s (f1 i))) (fun i => pfV s (f2 i)))) (K2 : ChV M B m2 f2) (hb : m1 + m2 ≤ bdV q A B) (h0 : 0 < M) (hS : S % 2 ^ (q' + 1) = 0) (h1 : S ≤ A) (h2 : A < M) (hMS : M = S + 2 ^ q') (h3 : M ≤ B) (h4 : B + 1 ≤ S + 2 ^ (q' + 1)) (hne : ¬ (A % 2 ^ (q' + 1) = 0 ∧ (B + 1) % 2 ^ (q' + 1) = 0)) :
    PfR w v n h s q A B (.returned v3) w3 := by
  have hs := C1.size
  refine ⟨v3, m1 + m2, fun j => if j < m1 then f1 j else f2 (j - m1), rfl, ?_, ?_, K1.join h0 K2 hS h1 h2 hMS h3 h4 (fun ⟨e1, e2⟩ => hne ⟨by rw [e1]; exact hS, by rw [e2, Nat.add_mod, hS, Nat.mod_self]; rfl⟩), hb, ?_⟩
  · refine ⟨C2.os.trans C1.os, C2.tape.trans C1.tape, C2.output.trans C1.output, Nat.le_trans C1.size C2.size, fun k hk hn => (C2.block k (Nat.lt_of_lt_of_le hk hs) (fun e => ?_)).trans (C1.block k hk hn)⟩
    rcases F1 with q | ⟨k2, q, l⟩
    · exact hn (by unfold AtV at e ⊢; rw [← q]; exact e)
    · unfold AtV at e
      rw [q] at e
      simp only [Option.some.injEq] at e
      omega
  · rw [appF_app, Nat.add_assoc] at O
    have e : (fun j => if j < m1 then pfV s (f1 j) else pfV s (f2 (j - m1))) = (fun i => pfV s (if i < m1 then f1 i else f2 (i - m1))) := by
      funext j
      split <;> rfl
    rw [← e]
    exact O
  · rcases F2 with q | ⟨k2, q, l⟩
    · rcases F1 with q1 | ⟨k1, q1, l1⟩
      · exact .inl (q.trans q1)
      · exact .inr ⟨k1, q.trans q1, l1⟩
    · exact .inr ⟨k2, q, Nat.le_trans hs l⟩
set_option maxHeartbeats 2000000 in
theorem c146 (r : Nat × Nat) (s : Bool) (hs1 : sK r.1 = s) (hs2 : sK r.2 = s) (q : Nat) : ∀ (HA LA HB LB A B : Nat) (hA : HA * 18446744073709551616 + LA = A) (hB : HB * 18446744073709551616 + LB = B) (a1 : HA < 18446744073709551616) (a2 : LA < 18446744073709551616) (b1 : HB < 18446744073709551616) (b2 : LB < 18446744073709551616) (hAB : A ≤ B) (hq : A / 2 ^ q = B / 2 ^ q) (hq8 : q ≤ 128) (hf : s = false → 281470681743360 ≤ A ∧ B < 281474976710656) (v : Value) (n : Nat) (h : Nat → Nat × Nat) (hn : n + bdV q A B ≤ 1000000000) (w : World) (HO : OwnDV layP 93 w v n h),
    Calls Tryz.prog 146 #[v, .func (.func 111) #[.agg #[.int .u64 (hK r.1), .int .u64 (lK r.1), .bool true, .bool (sK r.1), .string ⟨#[]⟩, .int .u64 (hK r.2), .int .u64 (lK r.2), .bool true, .bool (sK r.2), .string ⟨#[]⟩]] #[], .agg #[.int .u64 ((HA : Nat) : Int), .int .u64 ((LA : Nat) : Int)], .agg #[.int .u64 ((HB : Nat) : Int), .int .u64 ((LB : Nat) : Int)]] w (PfR w v n h s q A B) := by
  induction q using Nat.strongRecOn with
  | _ q ih =>
    intro HA LA HB LB A B hA hB a1 a2 b1 b2 hAB hq hq8 hf v n h hn w HO
    obtain ⟨p0, c0, rfl, _⟩ := HO.form
    obtain ⟨c, hc, ec, x1, x2, x3⟩ := cpl_spec HA LA HB LB a1 a2 b1 b2
    rw [hA, hB] at x1 x2
    have hce : 128 - c ≤ q := by
      refine Nat.le_of_not_lt fun l => ?_
      refine x2 (by omega) ?_
      have e : 2 ^ (128 - c - 1) = 2 ^ q * 2 ^ (128 - c - 1 - q) := by rw [← Nat.pow_add]; congr 1; omega
      rw [e, ← Nat.div_div_eq_div_mul, ← Nat.div_div_eq_div_mul, hq]
    have IH : Hid _ := ih
    have HOO : Hid _ := HO
    have HF : Hid _ := hf
    have HS1 : Hid _ := hs1
    have HS2 : Hid _ := hs2
    have hb1 : 1 ≤ bdV q A B := by unfold bdV; omega
    have hcA := cpA_spec HA LA c a1 a2 hc
    have hcB := cpB_spec HB LB c b1 b2 hc
    rw [hA] at hcA
    rw [hB] at hcB
    have hp := Nat.two_pow_pos (128 - c)
    cases hz : cpZ (HA : Int) (LA : Int) (HB : Int) (LB : Int)
    · have hc8 : c < 128 := by
        refine Nat.lt_of_not_le fun l => ?_
        unfold cpZ at hz
        rw [ec, if_pos (by omega)] at hz
        cases hz
      have hne : ¬ (A % 2 ^ (128 - c) = 0 ∧ (B + 1) % 2 ^ (128 - c) = 0) := fun ⟨z1, z2⟩ => by
        unfold cpZ at hz
        rw [ec, if_neg (by omega), hcA.2 z1, hcB.2 z2] at hz
        cases hz
      obtain ⟨M, S, m0, mz, sz, sA, aM, mS, mB, bS, d1, d2, l1, l2⟩ := split_num hA hB a2 b2 hc8 hAB x1 (x2 hc8)
      have HZ : Hid _ := hz
      have HE : Hid _ := ec
      have HNUM : Hid (0 < M ∧ M % 2 ^ (127 - c) = 0 ∧ S % 2 ^ (127 - c + 1) = 0 ∧ S ≤ A ∧ A < M ∧ M = S + 2 ^ (127 - c) ∧ M ≤ B ∧ B + 1 ≤ S + 2 ^ (127 - c + 1) ∧ A / 2 ^ (127 - c) = (M - 1) / 2 ^ (127 - c) ∧ M / 2 ^ (127 - c) = B / 2 ^ (127 - c) ∧ ¬ (A % 2 ^ (127 - c + 1) = 0 ∧ (B + 1) % 2 ^ (127 - c + 1) = 0)) := ⟨m0, mz, sz, sA, aM, mS, mB, bS, d1, d2, by rw [show 127 - c + 1 = 128 - c by omega]; exact hne⟩
      obtain ⟨H1, hH1⟩ : ∃ x, Hid (lastH (c + 1) HA = x) := ⟨_, rfl⟩
      obtain ⟨L1, hL1⟩ : ∃ x, Hid (lastL (c + 1) LA = x) := ⟨_, rfl⟩
      obtain ⟨H2, hH2⟩ : ∃ x, Hid (topH HB (c + 1) = x) := ⟨_, rfl⟩
      obtain ⟨L2, hL2⟩ : ∃ x, Hid (topL LB (c + 1) = x) := ⟨_, rfl⟩
      have v1 : Hid (H1 * 18446744073709551616 + L1 = M - 1 ∧ H1 < 18446744073709551616 ∧ L1 < 18446744073709551616) := by
        rw [← hH1.out, ← hL1.out]; exact ⟨l1, lastH_lt _ _ a1, lastL_lt _ _ a2⟩
      have v2 : Hid (H2 * 18446744073709551616 + L2 = M ∧ H2 < 18446744073709551616 ∧ L2 < 18446744073709551616) := by
        rw [← hH2.out, ← hL2.out]; exact ⟨l2, topH_lt' _ _ b1, topL_lt' _ _ b2⟩
      have HHA : Hid _ := hA
      have HHB : Hid _ := hB
      have hcI : (c : Int) ≤ 127 := by omega
      clear ih HO hf hs1 hs2 hcA hcB hz hne x1 x2 x3 ec m0 mz sz sA aM mS mB bS d1 d2 l1 l2 hq hp hA hB
      go_enter Tryz.func146, Tryz.ntmps146

      go_wp2_with (first | (go_at_call 110; (with_reducible refine (k110 HA LA HB LB a1 a2 b1 b2 c HE.out false HZ.out _).mono ?_); rintro e w' ⟨rfl, dd, oo, rfl⟩))
      refine wp_region_plus_tail 7 (by kernel_rfl) (by kernel_rfl) ?_
      simp only [List.take_succ_cons, List.take_zero, List.drop_succ_cons, List.drop_zero]
      repeat (go_big_quiet_step (first | (go_at_call 169; (with_reducible exact Calls.plus_of (k169s HA LA c a1 a2 (by omega) H1 L1 hH1.out hL1.out _)))))
      refine wpQuiet_nil ?_
      intro _ hq
      obtain ⟨⟨dq, oq⟩, rfl⟩ := hq
      go_wp2_with fail
      obtain ⟨u1, u2, u3, u4, u5, u6, u7, u8, u9, u10, u11⟩ := HNUM.out
      have hsum : bdV (127 - c) A (M - 1) + bdV (127 - c) M B ≤ bdV q A B := Nat.le_trans (bdV_join u1 u2 (Nat.le_refl _) (Nat.le_refl _) u11) (bdV_mono (by omega))
      clear u2 u3 u4 u6 u8 u9 u10 u11
      refine (IH.out (127 - c) (by omega) HA LA H1 L1 A (M - 1) HHA.out v1.out.1 a1 a2 v1.out.2.1 v1.out.2.2 (by omega) HNUM.out.2.2.2.2.2.2.2.2.1 (by omega) (fun z => ⟨(HF.out z).1, by have := (HF.out z).2; omega⟩) _ n h (by omega) _ (OwnDV.chg HOO.out (F := fun _ => False) (by (repeat (with_reducible first | exact Chg.refl _ _ | refine Chg.plus ?_ _ _ | refine Chg.alloc ?_ _ | refine Chg.drew ?_))) (fun _ _ => id))).mono ?_
      rintro e w2 ⟨v2', m1, f1, rfl, Y⟩
      obtain ⟨p1, c1, rfl, _⟩ := Y.out.2.1.form
      have HC1 : Hid (Chg (AtV (.slice p0 n c0)) w w2) := Chg.trans (by (repeat (with_reducible first | exact Chg.refl _ _ | refine Chg.plus ?_ _ _ | refine Chg.alloc ?_ _ | refine Chg.drew ?_))) Y.out.1
      have HB1 : Hid (w2.heap[w.heap.size + 1]? = some (.cells #[.int .u64 ((HB : Nat) : Int), .int .u64 ((LB : Nat) : Int)] 156 (0, 0))) := (Y.out.1.block _ (by simp; omega) (fun e => by have := OwnDV.lt HOO.out e; omega)).trans (by (repeat (with_reducible first | exact newUV _ _ _ _ (by simp) | refine blk_plus ?_ _ _ | refine blk_alloc ?_ _ | refine blk_drew ?_)))
      have cb0 := cell_of_row w2 (w.heap.size + 1) 0 _ 156 (0, 0) HB1.out
      have cb1 := cell_of_row w2 (w.heap.size + 1) 1 _ 156 (0, 0) HB1.out
      have hlB : w.heap.size + 1 < w2.heap.size := (Array.getElem?_eq_some_iff.1 HB1.out).1
      simp only [List.getElem?_toArray, List.getElem?_cons_zero, List.getElem?_cons_succ] at cb0 cb1
      have hm1 := Y.out.2.2.2.1
      have HY : Hid (OwnDV layP 93 w2 (.slice p1 (n + m1) c1) (n + m1) (appF n h (fun i => pfV s (f1 i))) ∧ ChV A (M - 1) m1 f1 ∧ Fresh w (.slice p0 n c0) (.slice p1 (n + m1) c1)) := ⟨Y.out.2.1, Y.out.2.2.1, by
        rcases Y.out.2.2.2.2 with e | ⟨k, e, l⟩
        · exact .inl e
        · exact .inr ⟨k, e, by simp at l; omega⟩⟩
      clear Y
      go_wp2_with fail
      refine wp_region_plus_tail 7 (by kernel_rfl) (by kernel_rfl) ?_
      simp only [List.take_succ_cons, List.take_zero, List.drop_succ_cons, List.drop_zero]
      repeat (go_big_quiet_step (first | (go_at_call 170; (with_reducible exact Calls.plus_of (k170s HB LB c b1 b2 (by omega) H2 L2 hH2.out hL2.out _)))))
      refine wpQuiet_nil ?_
      intro _ hq
      obtain ⟨⟨dq, oq⟩, rfl⟩ := hq
      go_wp2_with fail
      refine (IH.out (127 - c) (by omega) H2 L2 HB LB M B v2.out.1 HHB.out v2.out.2.1 v2.out.2.2 b1 b2 u7 HNUM.out.2.2.2.2.2.2.2.2.2.1 (by omega) (fun z => ⟨by have := (HF.out z).1; omega, (HF.out z).2⟩) _ (n + m1) (appF n h (fun i => pfV s (f1 i))) (by omega) _ (HY.out.1.chg (F := fun _ => False) (by (repeat (with_reducible first | exact Chg.refl _ _ | refine Chg.plus ?_ _ _ | refine Chg.alloc ?_ _ | refine Chg.drew ?_))) (fun _ _ => id))).mono ?_
      rintro e w3 ⟨v3', m2, f2, rfl, Y⟩
      obtain ⟨p2, c2, rfl, _⟩ := Y.out.2.1.form
      have HC2 : Hid (Chg (AtV (.slice p1 (n + m1) c1)) w2 w3) := Chg.trans (by (repeat (with_reducible first | exact Chg.refl _ _ | refine Chg.plus ?_ _ _ | refine Chg.alloc ?_ _ | refine Chg.drew ?_))) Y.out.1
      have HF2 : Hid (Fresh w2 (.slice p1 (n + m1) c1) (.slice p2 (n + m1 + m2) c2)) := by
        rcases Y.out.2.2.2.2 with e | ⟨k, e, l⟩
        · exact .inl e
        · exact .inr ⟨k, e, by simp at l; omega⟩
      have HY2 : Hid (OwnDV layP 93 w3 (.slice p2 (n + m1 + m2) c2) (n + m1 + m2) (appF (n + m1) (appF n h (fun i => pfV s (f1 i))) (fun i => pfV s (f2 i))) ∧ ChV M B m2 f2 ∧ m2 ≤ bdV (127 - c) M B) := ⟨Y.out.2.1, Y.out.2.2.1, Y.out.2.2.2.1⟩
      clear Y cb0 cb1
      go_wp2_with fail
      go_ret
      exact pf_join HC1.out HC2.out HY.out.2.2 HF2.out HY.out.2.1 HY2.out.1 HY2.out.2.1 (by have := HY2.out.2.2; omega) HNUM.out.1 HNUM.out.2.2.1 HNUM.out.2.2.2.1 HNUM.out.2.2.2.2.1 HNUM.out.2.2.2.2.2.1 HNUM.out.2.2.2.2.2.2.1 HNUM.out.2.2.2.2.2.2.2.1 HNUM.out.2.2.2.2.2.2.2.2.2.2
    · have hzz : A % 2 ^ (128 - c) = 0 ∧ (B + 1) % 2 ^ (128 - c) = 0 := by
        by_cases h8 : c = 128
        · rw [h8]; exact ⟨Nat.mod_one _, Nat.mod_one _⟩
        · unfold cpZ at hz
          rw [ec, if_neg (by omega), Bool.and_eq_true] at hz
          exact ⟨hcA.1 hz.1, hcB.1 hz.2⟩
      have hA2 : A + 2 ^ (128 - c) = B + 1 := by
        have g := mult_gap hzz.1 hzz.2 (by omega)
        have d1 := Nat.div_add_mod A (2 ^ (128 - c))
        have d2 := Nat.div_add_mod B (2 ^ (128 - c))
        have d3 := Nat.mod_lt B hp
        rw [x1] at d1
        omega
      have h32 : s = false → A < 281474976710656 ∧ 128 - c ≤ 32 := fun z => by
        have := hf z
        refine ⟨by omega, Nat.le_of_not_lt fun l => ?_⟩
        have := pow_lt' l
        rw [show (2 : Nat) ^ 32 = 4294967296 from rfl] at this
        omega
      obtain ⟨P, hP⟩ : ∃ P, Hid (pfV s (A, 128 - c) = P) := ⟨_, rfl⟩
      have HZ : Hid _ := hz
      have HE : Hid _ := ec
      have H32 : Hid _ := h32
      have HHA : Hid _ := hA
      have HCH : Hid (ChV A B 1 (fun _ => (A, 128 - c))) := ChV.one hzz.1 hA2
      have hcI : (c : Int) ≤ 128 := by omega
      clear ih IH HO hf hs1 hs2 hcA hcB hz hzz hA2 h32 x1 x2 x3 ec hq hp hA hB
      go_enter Tryz.func146, Tryz.ntmps146

      go_wp2_with (first | (go_at_call 110; (with_reducible refine (k110 HA LA HB LB a1 a2 b1 b2 c HE.out true HZ.out _).mono ?_); rintro e w' ⟨rfl, dd, oo, rfl⟩))
      refine (k111P r s HS1.out HS2.out HA LA c a1 a2 hc A HHA.out H32.out P hP.out _).mono ?_
      rintro e w' ⟨rfl, d1, o1, rfl⟩
      go_wp2_with ((at_builtin; refine appD rfl (.tmp 18) (.tmp 23) 84 48 infoP under84 (by omega) rfl _ n h rfl (OwnDV.chg HOO.out (F := fun _ => False) (by (repeat (with_reducible first | exact Chg.refl _ _ | refine Chg.plus ?_ _ _ | refine Chg.alloc ?_ _ | refine Chg.drew ?_))) (fun _ _ => id)) 1 (fun _ => P) (Rd.newPf P (by simp)) (by omega) ?_; intro p1 c1 w1 hO1 hC1 hat1; have HC1 : Hid (Chg (AtV (.slice p0 n c0)) w w1) := Chg.trans (by (repeat (with_reducible first | exact Chg.refl _ _ | refine Chg.plus ?_ _ _ | refine Chg.alloc ?_ _ | refine Chg.drew ?_))) hC1; have HF1 : Hid (Fresh w (.slice p0 n c0) (.slice p1 (n + 1) c1)) := fresh_of hat1.out (by simp; omega); clear hC1 hat1))
      go_ret
      refine ⟨_, 1, fun _ => (A, 128 - c), rfl, HC1.out, ?_, HCH.out, by omega, HF1.out⟩
      have := hO1.out
      rw [← hP.out] at this
      exact this
end Go.Proofs.YtmoabfpdlbngeaaGreatDoor
end
