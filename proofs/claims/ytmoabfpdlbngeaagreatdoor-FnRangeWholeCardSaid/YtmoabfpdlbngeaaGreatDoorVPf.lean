/-
  Part of the proofs on the laws of pub-addresssets: joined texts (Pf, B3, B4).
-/
import Derived.Test.YtmoabfpdlbngeaaGreatDoorVB1
import Derived.Test.YtmoabfpdlbngeaaGreatDoorVLa
import Derived.Test.YtmoabfpdlbngeaaGreatDoorVSA
section
set_option linter.unusedSimpArgs false
/- Prefixes as ranges of keys: the numbers. -/
namespace Go.Proofs.YtmoabfpdlbngeaaGreatDoor
set_option linter.unusedVariables false
theorem and_hi (x p : Nat) (hx : x < 2 ^ 64) (hp : p ≤ 64) : x &&& ((2 ^ 64 - 1) ^^^ ((2 ^ 64 - 1) / 2 ^ p)) = x / 2 ^ (64 - p) * 2 ^ (64 - p) := by
  apply Nat.eq_of_testBit_eq
  intro i
  rw [Nat.testBit_and, Nat.testBit_xor, Nat.testBit_mul_two_pow, Nat.testBit_div_two_pow, Nat.testBit_div_two_pow, Nat.testBit_two_pow_sub_one, Nat.testBit_two_pow_sub_one]
  by_cases h1 : i < 64
  · by_cases h2 : 64 - p ≤ i
    · have e1 : decide (i + p < 64) = false := decide_eq_false (by omega)
      rw [e1, decide_eq_true h1, decide_eq_true (show i ≥ 64 - p from h2), show i - (64 - p) + (64 - p) = i by omega]
      simp
    · have e1 : decide (i + p < 64) = true := decide_eq_true (by omega)
      rw [e1, decide_eq_true h1, decide_eq_false (show ¬ i ≥ 64 - p by omega)]
      simp
  · have e1 : decide (i + p < 64) = false := decide_eq_false (by omega)
    have e2 : x.testBit i = false := Nat.testBit_lt_two_pow (Nat.lt_of_lt_of_le hx (Nat.pow_le_pow_right (by omega) (by omega)))
    have e3 : x.testBit (i - (64 - p) + (64 - p)) = false := by rw [show i - (64 - p) + (64 - p) = i by omega]; exact e2
    rw [e2, e3]
    simp
theorem and_lo (x q : Nat) (hx : x < 2 ^ 64) (hq : q ≤ 64) : x &&& ((2 ^ 64 - 1) * 2 ^ q % 2 ^ 64) = x / 2 ^ q * 2 ^ q := by
  apply Nat.eq_of_testBit_eq
  intro i
  rw [Nat.testBit_and, Nat.testBit_mod_two_pow, Nat.testBit_mul_two_pow, Nat.testBit_mul_two_pow, Nat.testBit_div_two_pow, Nat.testBit_two_pow_sub_one]
  by_cases h1 : i < 64
  · by_cases h2 : q ≤ i
    · rw [decide_eq_true h1, decide_eq_true (show i ≥ q from h2), decide_eq_true (show i - q < 64 by omega), show i - q + q = i by omega]
      simp
    · rw [decide_eq_false (show ¬ i ≥ q by omega)]
      simp
  · have e2 : x.testBit i = false := Nat.testBit_lt_two_pow (Nat.lt_of_lt_of_le hx (Nat.pow_le_pow_right (by omega) (by omega)))
    have e3 : x.testBit (i - q + q) = false := by rw [show i - q + q = i by omega]; exact e2
    rw [e2, e3]
    simp
theorem or_low (a q : Nat) : a * 2 ^ q ||| (2 ^ q - 1) = a * 2 ^ q + (2 ^ q - 1) := by
  rw [Nat.mul_comm]
  exact (Nat.two_pow_add_eq_or_of_lt (Nat.sub_lt (Nat.two_pow_pos q) (by omega)) a).symm
/-- A number of 128 bits without its lowest ones, by halves. -/
def topH (H n : Nat) : Nat := H / 2 ^ (64 - n) * 2 ^ (64 - n)
def topL (L n : Nat) : Nat := if n ≤ 64 then 0 else L / 2 ^ (128 - n) * 2 ^ (128 - n)
theorem pow64 (a b : Nat) (h : a + b = 64) : 2 ^ a * 2 ^ b = 18446744073709551616 := by
  rw [← Nat.pow_add, h]
theorem top_val (H L n : Nat) (hL : L < 18446744073709551616) (hn : n ≤ 128) : (H * 18446744073709551616 + L) / 2 ^ (128 - n) * 2 ^ (128 - n) = topH H n * 18446744073709551616 + topL L n := by
  unfold topH topL
  by_cases h : n ≤ 64
  · rw [if_pos h, Nat.add_zero]
    have e : 2 ^ (128 - n) = 18446744073709551616 * 2 ^ (64 - n) := by
      rw [show 128 - n = 64 + (64 - n) by omega, Nat.pow_add]
    have e2 : (H * 18446744073709551616 + L) / 18446744073709551616 = H := by omega
    rw [e, ← Nat.div_div_eq_div_mul, e2, Nat.mul_assoc]
    congr 1
    exact Nat.mul_comm _ _
  · rw [if_neg h, show 64 - n = 0 by omega, Nat.pow_zero, Nat.div_one, Nat.mul_one]
    have e : 18446744073709551616 = 2 ^ (n - 64) * 2 ^ (128 - n) := (pow64 _ _ (by omega)).symm
    have hp := Nat.two_pow_pos (128 - n)
    have e2 : (H * 18446744073709551616 + L) / 2 ^ (128 - n) = H * 2 ^ (n - 64) + L / 2 ^ (128 - n) := by
      rw [e, ← Nat.mul_assoc, Nat.add_comm, Nat.add_mul_div_right _ _ hp, Nat.add_comm]
    rw [e2, Nat.add_mul, Nat.mul_assoc, ← e]
theorem topH_lt (H n : Nat) (hH : H < 18446744073709551616) : topH H n + (2 ^ (64 - n) - 1) < 18446744073709551616 := by
  unfold topH
  by_cases h : n ≤ 64
  · have e : 18446744073709551616 = 2 ^ n * 2 ^ (64 - n) := (pow64 _ _ (by omega)).symm
    have hp := Nat.two_pow_pos (64 - n)
    have h1 : H / 2 ^ (64 - n) < 2 ^ n := by
      rw [Nat.div_lt_iff_lt_mul hp, ← e]; exact hH
    have h2 : (H / 2 ^ (64 - n) + 1) * 2 ^ (64 - n) ≤ 2 ^ n * 2 ^ (64 - n) := Nat.mul_le_mul_right _ h1
    rw [Nat.add_mul, Nat.one_mul, ← e] at h2
    omega
  · rw [show 64 - n = 0 by omega, Nat.pow_zero, Nat.div_one, Nat.mul_one]; omega
theorem topL_lt (L n : Nat) (hL : L < 18446744073709551616) (h : ¬ n ≤ 64) (hn : n ≤ 128) : topL L n + (2 ^ (128 - n) - 1) < 18446744073709551616 := by
  unfold topL
  rw [if_neg h]
  have e : 18446744073709551616 = 2 ^ (n - 64) * 2 ^ (128 - n) := (pow64 _ _ (by omega)).symm
  have hp := Nat.two_pow_pos (128 - n)
  have h1 : L / 2 ^ (128 - n) < 2 ^ (n - 64) := by
    rw [Nat.div_lt_iff_lt_mul hp, ← e]; exact hL
  have h2 : (L / 2 ^ (128 - n) + 1) * 2 ^ (128 - n) ≤ 2 ^ (n - 64) * 2 ^ (128 - n) := Nat.mul_le_mul_right _ h1
  rw [Nat.add_mul, Nat.one_mul, ← e] at h2
  omega
theorem lastH_top (H n : Nat) : lastH n (topH H n) = topH H n + (2 ^ (64 - n) - 1) := or_low _ _
theorem lastL_top (L n : Nat) (hn : n ≤ 128) : lastL n (topL L n) = if n ≤ 64 then 18446744073709551615 else topL L n + (2 ^ (128 - n) - 1) := by
  unfold lastL topL
  by_cases h : n ≤ 64
  · rw [if_pos h, if_pos h, show min 64 (128 - n) = 64 by omega]; rfl
  · rw [if_neg h, if_neg h, show min 64 (128 - n) = 128 - n by omega]; exact or_low _ _
theorem last_val (H L n : Nat) (hn : n ≤ 128) : topH H n * 18446744073709551616 + topL L n + (2 ^ (128 - n) - 1) = lastH n (topH H n) * 18446744073709551616 + lastL n (topL L n) := by
  rw [lastH_top, lastL_top L n hn]
  by_cases h : n ≤ 64
  · rw [if_pos h]
    have e : 2 ^ (128 - n) = 2 ^ (64 - n) * 18446744073709551616 := by
      rw [show 128 - n = (64 - n) + 64 by omega, Nat.pow_add]
    have e0 : topL L n = 0 := by unfold topL; rw [if_pos h]
    have hp := Nat.two_pow_pos (64 - n)
    rw [e, e0]
    omega
  · rw [if_neg h, show 64 - n = 0 by omega]
    omega
/-- How many bits an address has; a family's first key; the room of a prefix; its first and its last key. -/
def lenK (k : Nat) : Nat := if 8589934592 ≤ k then 128 else 32
def baseK (k : Nat) : Nat := if 8589934592 ≤ k then 8589934592 else 0
def roomK (k n : Nat) : Nat := 2 ^ (lenK k - n)
def pfA (k n : Nat) : Nat := baseK k + (k - baseK k) / roomK k n * roomK k n
def pfR (k n : Nat) : Nat × Nat := (pfA k n, pfA k n + (roomK k n - 1))
theorem roomK_pos (k n : Nat) : 0 < roomK k n := Nat.two_pow_pos _
def hN (k : Nat) : Nat := if 8589934592 ≤ k then (k - 8589934592) / 18446744073709551616 else 0
def lN (k : Nat) : Nat := if 8589934592 ≤ k then (k - 8589934592) % 18446744073709551616 else 281470681743360 + k
theorem hK_N (k : Nat) : hK k = ((hN k : Nat) : Int) := by unfold hK hN; split <;> rfl
theorem lK_N (k : Nat) : lK k = ((lN k : Nat) : Int) := by unfold lK lN; split <;> (first | rfl | omega)
theorem pf6 (k n : Nat) (o : okK k) (s : 8589934592 ≤ k) (hn : n ≤ 128) : pfA k n = 8589934592 + (topH (hN k) n * 18446744073709551616 + topL (lN k) n) ∧ (pfR k n).2 = 8589934592 + (lastH n (topH (hN k) n) * 18446744073709551616 + lastL n (topL (lN k) n)) := by
  have e : pfA k n = 8589934592 + (topH (hN k) n * 18446744073709551616 + topL (lN k) n) := by
    unfold pfA roomK baseK lenK hN lN
    rw [if_pos s, if_pos s, if_pos s, if_pos s, ← top_val _ _ n (Nat.mod_lt _ (by omega)) hn]
    generalize k - 8589934592 = V
    have eV : V / 18446744073709551616 * 18446744073709551616 + V % 18446744073709551616 = V := by omega
    rw [eV]
  refine ⟨e, ?_⟩
  have e3 : (pfR k n).2 = pfA k n + (roomK k n - 1) := rfl
  rw [e3, ← last_val _ _ n hn, e]
  unfold roomK lenK
  rw [if_pos s, Nat.add_assoc]
theorem pf6_key {x y : Nat} (hx : x < 18446744073709551616) (hy : y < 18446744073709551616) : okK (8589934592 + (x * 18446744073709551616 + y)) ∧ sK (8589934592 + (x * 18446744073709551616 + y)) = true ∧ hK (8589934592 + (x * 18446744073709551616 + y)) = (x : Int) ∧ lK (8589934592 + (x * 18446744073709551616 + y)) = (y : Int) := by
  have e : 8589934592 + (x * 18446744073709551616 + y) - 8589934592 = x * 18446744073709551616 + y := Nat.add_sub_cancel_left ..
  unfold okK sK hK lK
  rw [if_pos (Nat.le_add_right _ _), if_pos (Nat.le_add_right _ _), e]
  have e1 : (x * 18446744073709551616 + y) / 18446744073709551616 = x := by omega
  have e2 : (x * 18446744073709551616 + y) % 18446744073709551616 = y := by omega
  refine ⟨by omega, decide_eq_true (Nat.le_add_right _ _), ?_, ?_⟩
  · rw [e1]
  · rw [e2]
theorem hN_lt (k : Nat) (o : okK k) : hN k < 18446744073709551616 := by unfold okK at o; unfold hN; split <;> omega
theorem lN_lt (k : Nat) (o : okK k) : lN k < 18446744073709551616 := by unfold okK at o; unfold lN; split <;> omega
theorem topH_lt' (H n : Nat) (hH : H < 18446744073709551616) : topH H n < 18446744073709551616 := by have := topH_lt H n hH; omega
theorem topL_lt' (L n : Nat) (hL : L < 18446744073709551616) : topL L n < 18446744073709551616 := by
  unfold topL
  split
  · omega
  · exact Nat.lt_of_le_of_lt (Nat.div_mul_le_self _ _) hL
/-- The prefix of an address of 16 bytes. -/
theorem pf6_ok (k n : Nat) (o : okK k) (s : 8589934592 ≤ k) (hn : n ≤ 128) :
    (okK (pfA k n) ∧ sK (pfA k n) = true ∧ hK (pfA k n) = ((topH (hN k) n : Nat) : Int) ∧ lK (pfA k n) = ((topL (lN k) n : Nat) : Int)) ∧
    okK (pfR k n).2 ∧ sK (pfR k n).2 = true ∧ hK (pfR k n).2 = ((lastH n (topH (hN k) n) : Nat) : Int) ∧ lK (pfR k n).2 = ((lastL n (topL (lN k) n) : Nat) : Int) := by
  obtain ⟨e1, e2⟩ := pf6 k n o s hn
  rw [e1, e2]
  have h1 := hN_lt k o
  have h2 := lN_lt k o
  refine ⟨pf6_key (topH_lt' _ _ h1) (topL_lt' _ _ h2), pf6_key (lastH_lt _ _ (topH_lt' _ _ h1)) (lastL_lt _ _ (topL_lt' _ _ h2))⟩
theorem pf4_top (k n : Nat) (h : k < 4294967296) (hn : n ≤ 32) : (281470681743360 + k) / 2 ^ (32 - n) * 2 ^ (32 - n) = 281470681743360 + k / 2 ^ (32 - n) * 2 ^ (32 - n) ∧ k / 2 ^ (32 - n) * 2 ^ (32 - n) + (2 ^ (32 - n) - 1) < 4294967296 := by
  have e : 4294967296 = 2 ^ n * 2 ^ (32 - n) := by rw [← Nat.pow_add, show n + (32 - n) = 32 by omega]
  have hp := Nat.two_pow_pos (32 - n)
  have e2 : 281470681743360 = 65535 * 2 ^ n * 2 ^ (32 - n) := by rw [Nat.mul_assoc, ← e]
  constructor
  · have : (281470681743360 + k) / 2 ^ (32 - n) = 65535 * 2 ^ n + k / 2 ^ (32 - n) := by
      rw [e2, Nat.add_comm, Nat.add_mul_div_right _ _ hp, Nat.add_comm]
    rw [this, Nat.add_mul, ← e2]
  · have h1 : k / 2 ^ (32 - n) < 2 ^ n := by
      rw [Nat.div_lt_iff_lt_mul hp, ← e]; exact h
    have h2 : (k / 2 ^ (32 - n) + 1) * 2 ^ (32 - n) ≤ 2 ^ n * 2 ^ (32 - n) := Nat.mul_le_mul_right _ h1
    rw [Nat.add_mul, Nat.one_mul, ← e] at h2
    omega
theorem topL4 (L n : Nat) (hn : n ≤ 32) : topL L (96 + n) = L / 2 ^ (32 - n) * 2 ^ (32 - n) := by
  unfold topL
  rw [if_neg (by omega), show 128 - (96 + n) = 32 - n by omega]
/-- The prefix of an address of 4 bytes. -/
theorem pf4_ok (k n : Nat) (h : k < 4294967296) (hn : n ≤ 32) :
    (okK (pfA k n) ∧ sK (pfA k n) = false ∧ hK (pfA k n) = 0 ∧ lK (pfA k n) = ((topL (lN k) (96 + n) : Nat) : Int)) ∧
    okK (pfR k n).2 ∧ sK (pfR k n).2 = false ∧ hK (pfR k n).2 = 0 ∧ lK (pfR k n).2 = ((lastL (96 + n) (topL (lN k) (96 + n)) : Nat) : Int) := by
  have s : ¬ 8589934592 ≤ k := by omega
  have eA : pfA k n = k / 2 ^ (32 - n) * 2 ^ (32 - n) := by
    unfold pfA roomK baseK lenK
    rw [if_neg s, if_neg s, Nat.sub_zero, Nat.zero_add]
  have eZ : (pfR k n).2 = k / 2 ^ (32 - n) * 2 ^ (32 - n) + (2 ^ (32 - n) - 1) := by
    have e3 : (pfR k n).2 = pfA k n + (roomK k n - 1) := rfl
    rw [e3, eA]; unfold roomK lenK; rw [if_neg s]
  have eL : lN k = 281470681743360 + k := by unfold lN; rw [if_neg s]
  obtain ⟨t1, t2⟩ := pf4_top k n h hn
  rw [eA, eZ, lastL_top _ _ (by omega), if_neg (show ¬ 96 + n ≤ 64 by omega), topL4 _ _ hn, eL, t1, show 128 - (96 + n) = 32 - n by omega]
  generalize k / 2 ^ (32 - n) * 2 ^ (32 - n) = A at *
  generalize 2 ^ (32 - n) - 1 = Z at *
  unfold okK sK hK lK
  rw [if_neg (by omega), if_neg (by omega), if_neg (by omega), if_neg (by omega)]
  refine ⟨⟨by omega, decide_eq_false (by omega), rfl, by omega⟩, by omega, decide_eq_false (by omega), rfl, by omega⟩
theorem pfR_ok (k n : Nat) (o : okK k) (hn : n ≤ lenK k) : okR (pfR k n) := by
  unfold lenK at hn
  by_cases s : 8589934592 ≤ k
  · rw [if_pos s] at hn
    obtain ⟨⟨a1, a2, _⟩, b1, b2, _⟩ := pf6_ok k n o s hn
    exact ⟨a1, b1, a2.trans b2.symm, Nat.le_add_right _ _⟩
  · rw [if_neg s] at hn
    have h : k < 4294967296 := by unfold okK at o; omega
    obtain ⟨⟨a1, a2, _⟩, b1, b2, _⟩ := pf4_ok k n h hn
    exact ⟨a1, b1, a2.trans b2.symm, Nat.le_add_right _ _⟩
end Go.Proofs.YtmoabfpdlbngeaaGreatDoor
end

section
namespace Go.Proofs.YtmoabfpdlbngeaaGreatDoor
open Go.RowKit
set_option maxHeartbeats 400000
set_option linter.unusedVariables false
set_option linter.unusedSimpArgs false
theorem maskH (H n : Nat) (hH : H < 18446744073709551616) : bits .and .u64 ((H : Nat) : Int) (mkH6 ((n : Nat) : Int)) = ((topH H n : Nat) : Int) := by
  unfold mkH6
  have e1 : (18446744073709551615 : Int) / 2 ^ min ((n : Nat) : Int).toNat 64 = ((18446744073709551615 / 2 ^ min n 64 : Nat) : Int) := by
    rw [Int.toNat_natCast, Int.natCast_ediv, Int.natCast_pow]; rfl
  have e2 : IntKind.u64.max = ((18446744073709551615 : Nat) : Int) := rfl
  have l1 : 18446744073709551615 / 2 ^ min n 64 < 18446744073709551616 := Nat.lt_of_le_of_lt (Nat.div_le_self _ _) (by omega)
  have l2 : 18446744073709551615 ^^^ (18446744073709551615 / 2 ^ min n 64) < 2 ^ 64 := Nat.xor_lt_two_pow (by omega) (by omega)
  rw [e1, e2, u64_xor_nat _ _ (by omega) l1, u64_and_nat _ _ hH (by omega)]
  have := and_hi H (min n 64) (by omega) (by omega)
  rw [show (2 : Nat) ^ 64 - 1 = 18446744073709551615 from rfl] at this
  rw [this]
  unfold topH
  rw [show 64 - min n 64 = 64 - n by omega]
theorem maskL (L n : Nat) (hL : L < 18446744073709551616) (hn : n ≤ 128) : bits .and .u64 ((L : Nat) : Int) (mkL6 ((n : Nat) : Int)) = ((topL L n : Nat) : Int) := by
  unfold mkL6
  have e0 : (128 - ((n : Nat) : Int)).toNat = 128 - n := by omega
  rw [e0, wrap_u64]
  have e1 : (18446744073709551615 : Int) * 2 ^ min (128 - n) 64 % 18446744073709551616 = ((18446744073709551615 * 2 ^ min (128 - n) 64 % 18446744073709551616 : Nat) : Int) := by rw [Int.natCast_emod, Int.natCast_mul, Int.natCast_pow]; rfl
  rw [e1, u64_and_nat _ _ hL (Nat.mod_lt _ (by omega))]
  have := and_lo L (min (128 - n) 64) (by omega) (by omega)
  rw [show (2 : Nat) ^ 64 - 1 = 18446744073709551615 from rfl, show (2 : Nat) ^ 64 = 18446744073709551616 from rfl] at this
  rw [this]
  unfold topL
  by_cases h : n ≤ 64
  · rw [if_pos h, show min (128 - n) 64 = 64 by omega]
    congr 1
    have : L / 2 ^ 64 = 0 := Nat.div_eq_of_lt hL
    rw [this, Nat.zero_mul]
  · rw [if_neg h, show min (128 - n) 64 = 128 - n by omega]
theorem k54 (k n : Nat) (o : okK k) (hn : n ≤ lenK k) (w : World) : Calls Tryz.prog 54 #[.agg #[.int .u64 (hK k), .int .u64 (lK k), .bool true, .bool (sK k), .string ⟨#[]⟩], .int .i64 (n : Int)] w fun e w' => e = .returned (.agg #[.int .u64 (hK k), .int .u64 (lK k), .bool true, .bool (sK k), .string ⟨#[]⟩, .int .u8 ((n : Nat) + 1 : Int)]) ∧ Plus w w' := by
  unfold lenK at hn
  by_cases s : 8589934592 ≤ k
  · rw [if_pos s] at hn
    have e : sK k = true := decide_eq_true s
    rw [e]
    exact c54_true _ _ _ (by omega) (by omega) w
  · rw [if_neg s] at hn
    have e : sK k = false := decide_eq_false s
    rw [e]
    exact c54_false _ _ _ (by omega) (by omega) w
theorem k136 (k n : Nat) (o : okK k) (hn : n ≤ lenK k) (w : World) : Calls Tryz.prog 136 #[.agg #[.int .u64 (hK k), .int .u64 (lK k), .bool true, .bool (sK k), .string ⟨#[]⟩, .int .u8 ((n : Nat) + 1 : Int)]] w fun e w' => e = .returned (.agg #[.int .u64 (hK (pfR k n).1), .int .u64 (lK (pfR k n).1), .bool true, .bool (sK (pfR k n).1), .string ⟨#[]⟩, .int .u8 ((n : Nat) + 1 : Int)]) ∧ Plus w w' := by
  have e0 : (((n : Nat) : Int) + 1 - 1) = ((n : Nat) : Int) := by omega
  unfold lenK at hn
  by_cases s : 8589934592 ≤ k
  · rw [if_pos s] at hn
    have e : sK k = true := decide_eq_true s
    obtain ⟨⟨a1, a2, a3, a4⟩, _⟩ := pf6_ok k n o s hn
    have hq := c136_true (hK k) (lK k) ((n : Nat) + 1) (by omega) (by omega) w
    rw [e0, hK_N k, lK_N k, maskH _ _ (hN_lt k o), maskL _ _ (lN_lt k o) hn] at hq
    show Calls _ _ _ _ fun e w' => e = .returned (.agg #[.int .u64 (hK (pfA k n)), .int .u64 (lK (pfA k n)), .bool true, .bool (sK (pfA k n)), .string ⟨#[]⟩, .int .u8 ((n : Nat) + 1 : Int)]) ∧ Plus w w'
    rw [e, a2, a3, a4, hK_N k, lK_N k]
    exact hq
  · rw [if_neg s] at hn
    have e : sK k = false := decide_eq_false s
    have h : k < 4294967296 := by unfold okK at o; omega
    obtain ⟨⟨a1, a2, a3, a4⟩, _⟩ := pf4_ok k n h hn
    have hq := c136_false (hK k) (lK k) ((n : Nat) + 1) (by omega) (by omega) w
    rw [e0, show ((n : Nat) : Int) + 96 = ((96 + n : Nat) : Int) by omega, hK_N k, lK_N k, maskH _ _ (hN_lt k o), maskL _ _ (lN_lt k o) (by omega)] at hq
    have z : topH (hN k) (96 + n) = 0 := by unfold topH hN; rw [if_neg s, Nat.zero_div, Nat.zero_mul]
    rw [z] at hq
    show Calls _ _ _ _ fun e w' => e = .returned (.agg #[.int .u64 (hK (pfA k n)), .int .u64 (lK (pfA k n)), .bool true, .bool (sK (pfA k n)), .string ⟨#[]⟩, .int .u8 ((n : Nat) + 1 : Int)]) ∧ Plus w w'
    rw [e, a2, a3, a4, hK_N k, lK_N k]
    exact hq
/-- The last address of a prefix that is masked. -/
theorem k71m (k n : Nat) (o : okK k) (hn : n ≤ lenK k) (w : World) : Calls Tryz.prog 71 #[.agg #[.int .u64 (hK (pfR k n).1), .int .u64 (lK (pfR k n).1), .bool true, .bool (sK (pfR k n).1), .string ⟨#[]⟩, .int .u8 ((n : Nat) + 1 : Int)]] w fun e w' => e = .returned (.agg #[.int .u64 (hK (pfR k n).2), .int .u64 (lK (pfR k n).2), .bool true, .bool (sK (pfR k n).2), .string ⟨#[]⟩]) ∧ Plus w w' := by
  unfold lenK at hn
  show Calls Tryz.prog 71 #[.agg #[.int .u64 (hK (pfA k n)), .int .u64 (lK (pfA k n)), .bool true, .bool (sK (pfA k n)), .string ⟨#[]⟩, .int .u8 ((n : Nat) + 1 : Int)]] w _
  by_cases s : 8589934592 ≤ k
  · rw [if_pos s] at hn
    obtain ⟨⟨a1, a2, a3, a4⟩, b1, b2, b3, b4⟩ := pf6_ok k n o s hn
    rw [a2, a3, a4, b2, b3, b4]
    exact c71_6 _ _ n hn (topH_lt' _ _ (hN_lt k o)) (topL_lt' _ _ (lN_lt k o)) w
  · rw [if_neg s] at hn
    have h : k < 4294967296 := by unfold okK at o; omega
    obtain ⟨⟨a1, a2, a3, a4⟩, b1, b2, b3, b4⟩ := pf4_ok k n h hn
    rw [a2, a3, a4, b2, b3, b4]
    refine c71_4 _ n hn (topL_lt' _ _ (lN_lt k o)) ?_ w
    have eL : lN k = 281470681743360 + k := by unfold lN; rw [if_neg s]
    obtain ⟨t1, t2⟩ := pf4_top k n h hn
    rw [topL4 _ _ hn, eL, t1]
    omega
theorem k53 (a b : Nat) (w : World) : Calls Tryz.prog 53 #[.agg #[.int .u64 (hK a), .int .u64 (lK a), .bool true, .bool (sK a), .string ⟨#[]⟩], .agg #[.int .u64 (hK b), .int .u64 (lK b), .bool true, .bool (sK b), .string ⟨#[]⟩]] w fun e w' => e = .returned (.agg #[.int .u64 (hK (a, b).1), .int .u64 (lK (a, b).1), .bool true, .bool (sK (a, b).1), .string ⟨#[]⟩, .int .u64 (hK (a, b).2), .int .u64 (lK (a, b).2), .bool true, .bool (sK (a, b).2), .string ⟨#[]⟩]) ∧ Plus w w' := c53 _ _ _ _ _ _ w
theorem k53r (r : Nat × Nat) (w : World) : Calls Tryz.prog 53 #[.agg #[.int .u64 (hK r.1), .int .u64 (lK r.1), .bool true, .bool (sK r.1), .string ⟨#[]⟩], .agg #[.int .u64 (hK r.2), .int .u64 (lK r.2), .bool true, .bool (sK r.2), .string ⟨#[]⟩]] w fun e w' => e = .returned (.agg #[.int .u64 (hK r.1), .int .u64 (lK r.1), .bool true, .bool (sK r.1), .string ⟨#[]⟩, .int .u64 (hK r.2), .int .u64 (lK r.2), .bool true, .bool (sK r.2), .string ⟨#[]⟩]) ∧ Plus w w' := c53 _ _ _ _ _ _ w
theorem k120 (k n : Nat) (w : World) : Calls Tryz.prog 120 #[.agg #[.int .u64 (hK k), .int .u64 (lK k), .bool true, .bool (sK k), .string ⟨#[]⟩, .int .u8 ((n : Nat) + 1 : Int)]] w fun e w' => e = .returned (.bool true) ∧ Plus w w' := c120 _ _ _ _ (by omega) w
theorem k43 (k n : Nat) (w : World) : Calls Tryz.prog 43 #[.agg #[.int .u64 (hK k), .int .u64 (lK k), .bool true, .bool (sK k), .string ⟨#[]⟩, .int .u8 ((n : Nat) + 1 : Int)]] w fun e w' => e = .returned (.agg #[.int .u64 (hK k), .int .u64 (lK k), .bool true, .bool (sK k), .string ⟨#[]⟩]) ∧ Plus w w' := c43 _ _ _ _ w
theorem k44 (k n : Nat) (hn : n ≤ 128) (w : World) : Calls Tryz.prog 44 #[.agg #[.int .u64 (hK k), .int .u64 (lK k), .bool true, .bool (sK k), .string ⟨#[]⟩, .int .u8 ((n : Nat) + 1 : Int)]] w fun e w' => e = .returned (.int .i64 (n : Int)) ∧ Plus w w' := by
  have hq := c44 (hK k) (lK k) (sK k) ((n : Nat) + 1) (by omega) (by omega) w
  rwa [show (((n : Nat) : Int) + 1 - 1) = ((n : Nat) : Int) by omega] at hq
theorem k52 (k : Nat) (o : okK k) (w : World) : Calls Tryz.prog 52 #[.agg #[.bool (sK k), .int .u64 (hK k), .int .u64 (mK k)]] w fun e w' => e = .returned (.agg #[.int .u64 (hK k), .int .u64 (lK k), .bool true, .bool (sK k), .string ⟨#[]⟩]) ∧ Plus w w' := by
  by_cases s : 8589934592 ≤ k
  · have e : sK k = true := decide_eq_true s
    have em : mK k = lK k := by unfold mK lK; rw [if_pos s, if_pos s]
    have w1 := hK_in k o
    have w2 := lK_in k o
    rw [e, em]
    exact c52_6 _ _ w w1.1 w1.2 w2.1 w2.2
  · have e : sK k = false := decide_eq_false s
    have h : k < 4294967296 := by unfold okK at o; omega
    have eh : hK k = 0 := by unfold hK; rw [if_neg s]
    have el : lK k = 281470681743360 + mK k % 4294967296 := by unfold lK mK; rw [if_neg s, if_neg s]; omega
    have hq := c52_4 (hK k) (mK k) w
    rw [← el] at hq
    rw [e]
    rw [eh] at hq ⊢
    exact hq
theorem k31 (k : Nat) (o : okK k) (w : World) : Calls Tryz.prog 31 #[.agg #[.int .u64 (hK k), .int .u64 (lK k), .bool true, .bool (sK k), .string ⟨#[]⟩]] w fun e w' => e = .returned (.agg #[.bool (sK k), .int .u64 (hK k), .int .u64 (mK k)]) ∧ Plus w w' := by
  by_cases s : 8589934592 ≤ k
  · have e : sK k = true := decide_eq_true s
    have em : mK k = lK k := by unfold mK lK; rw [if_pos s, if_pos s]
    have w1 := hK_in k o
    have w2 := lK_in k o
    rw [e, em]
    exact c31_6 _ _ w w1.1 w1.2 w2.1 w2.2
  · have e : sK k = false := decide_eq_false s
    have h : k < 4294967296 := by unfold okK at o; omega
    have eh : hK k = 0 := by unfold hK; rw [if_neg s]
    have el : mK k = lK k % 4294967296 := by unfold lK mK; rw [if_neg s, if_neg s]; omega
    rw [e, eh, el]
    exact c31_4 _ _ w
theorem k106 (k n : Nat) (o : okK k) (hn : n ≤ lenK k) (w : World) : Calls Tryz.prog 106 #[.agg #[.int .u64 (hK k), .int .u64 (lK k), .bool true, .bool (sK k), .string ⟨#[]⟩, .int .u8 ((n : Nat) + 1 : Int)]] w fun e w' => e = .returned (.agg #[.int .u64 (hK (pfR k n).1), .int .u64 (lK (pfR k n).1), .bool true, .bool (sK (pfR k n).1), .string ⟨#[]⟩, .int .u64 (hK (pfR k n).2), .int .u64 (lK (pfR k n).2), .bool true, .bool (sK (pfR k n).2), .string ⟨#[]⟩]) ∧ Plus w w' := by
  go_enter Tryz.func106, Tryz.ntmps106

  go_wp2_with (first | (go_at_call 136; (with_reducible refine (k136 k n o hn _).mono ?_); rintro e w' ⟨rfl, dd, oo, rfl⟩) | (go_at_call 120; (with_reducible refine (k120 _ _ _).mono ?_); rintro e w' ⟨rfl, dd, oo, rfl⟩))
  refine wp_region_plus_tail 5 (by kernel_rfl) (by kernel_rfl) ?_
  simp only [List.take_succ_cons, List.take_zero, List.drop_succ_cons, List.drop_zero]
  repeat (go_big_quiet_step (first | (go_at_call 43; exact Calls.plus_of (k43 _ _ _)) | (go_at_call 71; exact Calls.plus_of (k71m k n o hn _)) | (go_at_call 53; exact Calls.plus_of (k53r (pfR k n) _))))
  refine wpQuiet_nil ?_
  intro _ hq
  obtain ⟨⟨dq, oq⟩, rfl⟩ := hq
  go_wp2_with fail
  exact bodyPost_ret (v := .agg #[.int .u64 (hK (pfR k n).1), .int .u64 (lK (pfR k n).1), .bool true, .bool (sK (pfR k n).1), .string ⟨#[]⟩, .int .u64 (hK (pfR k n).2), .int .u64 (lK (pfR k n).2), .bool true, .bool (sK (pfR k n).2), .string ⟨#[]⟩]) (by simp [results, Tryz.results106, go_sem, IntWalk.iteOmega, ↓IntWalk.iteOmega]) rfl ⟨rfl, by repeat (first | exact Plus.refl _ | refine Plus.alloc ?_ _ | refine Plus.plus ?_ _ _ | refine Plus.drew ?_ | refine Plus.drewN ?_ _)⟩

end Go.Proofs.YtmoabfpdlbngeaaGreatDoor
end

section
namespace Go.Proofs.YtmoabfpdlbngeaaGreatDoor
open Go.RowKit
set_option maxHeartbeats 400000
set_option linter.unusedVariables false
set_option linter.unusedSimpArgs false
theorem s72 (B : Nat) (vi vo : Value) (N : Nat) (S : Nat → Prop) (hN : N ≤ 80000000) (r : Nat × Nat) (or : okR r) (w : World) (H : Bs w B vi vo N S) : Calls Tryz.prog 72 #[.pointer (some ⟨B, 0, none⟩), .agg #[.int .u64 (hK r.1), .int .u64 (lK r.1), .bool true, .bool (sK r.1), .string ⟨#[]⟩, .int .u64 (hK r.2), .int .u64 (lK r.2), .bool true, .bool (sK r.2), .string ⟨#[]⟩]] w fun e w' => e = .returned (.tuple #[]) ∧ Stp w B vi vo (N + 1) (fun k => S k ∨ (r.1 ≤ k ∧ k ≤ r.2)) w' := by
  obtain ⟨n, f, n', f', H, h1, h2⟩ := H
  obtain ⟨p, c, rfl⟩ := H.o.form
  by_cases h0 : n' = 0
  · subst h0
    exact c72a B p c vi n f f' N S h1 (by omega) h2 r or w H
  · exact c72b B p c vi n f n' (by omega) f' N S h1 (by omega) h2 r or w H
theorem s73 (B : Nat) (vi vo : Value) (N : Nat) (S : Nat → Prop) (hN : N ≤ 80000000) (r : Nat × Nat) (or : okR r) (w : World) (H : Bs w B vi vo N S) : Calls Tryz.prog 73 #[.pointer (some ⟨B, 0, none⟩), .agg #[.int .u64 (hK r.1), .int .u64 (lK r.1), .bool true, .bool (sK r.1), .string ⟨#[]⟩, .int .u64 (hK r.2), .int .u64 (lK r.2), .bool true, .bool (sK r.2), .string ⟨#[]⟩]] w fun e w' => e = .returned (.tuple #[]) ∧ Stp w B vi vo (N + 1) (fun k => S k ∧ ¬ (r.1 ≤ k ∧ k ≤ r.2)) w' := by
  obtain ⟨n, f, n', f', H, h1, h2⟩ := H
  refine (c73 B vi vo n f n' f' (by omega) r or w H).mono ?_
  rintro e w' ⟨rfl, v, C, H', F⟩
  refine ⟨rfl, vi, v, mvOut C F, n, f, n' + 1, snoc n' f' r, H', by omega, fun k => ?_⟩
  show (S k ∧ _) ↔ _
  rw [h2 k, MemR_snoc, not_or, and_assoc]
theorem k89 (k : Nat) (w : World) : Calls Tryz.prog 89 #[.agg #[.int .u64 (hK k), .int .u64 (lK k), .bool true, .bool (sK k), .string ⟨#[]⟩]] w fun e w' => e = .returned (.bool true) ∧ Plus w w' := c89 _ _ _ w
theorem Stp.from0 {w W w' : World} {B : Nat} {vi vo : Value} {N : Nat} {S : Nat → Prop} (Z : Stp W B vi vo N S w') (C : Chg (fun _ => False) w W) : Stp w B vi vo N S w' := Z.after (.of0 C B vi vo)
theorem okR_one {k : Nat} (o : okK k) : okR (k, k) := ⟨o, o, rfl, Nat.le_refl _⟩
theorem s76 (B : Nat) (vi vo : Value) (N : Nat) (S : Nat → Prop) (hN : N ≤ 80000000) (a : Nat) (oa : okK a) (w : World) (H : Bs w B vi vo N S) : Calls Tryz.prog 76 #[.pointer (some ⟨B, 0, none⟩), .agg #[.int .u64 (hK a), .int .u64 (lK a), .bool true, .bool (sK a), .string ⟨#[]⟩]] w fun e w' => e = .returned (.tuple #[]) ∧ Stp w B vi vo (N + 1) (fun k => S k ∨ (a ≤ k ∧ k ≤ a)) w' := by
  have HH : Hid _ := H
  clear H
  
  go_enter Tryz.func76, Tryz.ntmps76

  go_wp2_with (first | (go_at_call 89; (with_reducible refine (k89 _ _).mono ?_); rintro e w' ⟨rfl, dd, oo, rfl⟩) | (go_at_call 53; (with_reducible refine (k53 a a _).mono ?_); rintro e w' ⟨rfl, dd, oo, rfl⟩))
  refine (s72 B vi vo N S hN (a, a) (okR_one oa) _ (Bs.chg0 HH.out (by (repeat (with_reducible first | refine Chg.plus ?_ _ _ | refine Chg.alloc ?_ _ | refine Chg.drew ?_ | exact Chg.refl _ _))))).mono ?_
  rintro e w' ⟨rfl, Z⟩
  have HZ : Hid _ := Z
  clear Z
  go_wp2_with fail
  go_end0
  exact ⟨rfl, Stp.from0 HZ.out (by (repeat (with_reducible first | refine Chg.plus ?_ _ _ | refine Chg.alloc ?_ _ | refine Chg.drew ?_ | exact Chg.refl _ _)))⟩
theorem s77 (B : Nat) (vi vo : Value) (N : Nat) (S : Nat → Prop) (hN : N ≤ 80000000) (a : Nat) (oa : okK a) (w : World) (H : Bs w B vi vo N S) : Calls Tryz.prog 77 #[.pointer (some ⟨B, 0, none⟩), .agg #[.int .u64 (hK a), .int .u64 (lK a), .bool true, .bool (sK a), .string ⟨#[]⟩]] w fun e w' => e = .returned (.tuple #[]) ∧ Stp w B vi vo (N + 1) (fun k => S k ∧ ¬ (a ≤ k ∧ k ≤ a)) w' := by
  have HH : Hid _ := H
  clear H
  
  go_enter Tryz.func77, Tryz.ntmps77

  go_wp2_with (first | (go_at_call 89; (with_reducible refine (k89 _ _).mono ?_); rintro e w' ⟨rfl, dd, oo, rfl⟩) | (go_at_call 53; (with_reducible refine (k53 a a _).mono ?_); rintro e w' ⟨rfl, dd, oo, rfl⟩))
  refine (s73 B vi vo N S hN (a, a) (okR_one oa) _ (Bs.chg0 HH.out (by (repeat (with_reducible first | refine Chg.plus ?_ _ _ | refine Chg.alloc ?_ _ | refine Chg.drew ?_ | exact Chg.refl _ _))))).mono ?_
  rintro e w' ⟨rfl, Z⟩
  have HZ : Hid _ := Z
  clear Z
  go_wp2_with fail
  go_end0
  exact ⟨rfl, Stp.from0 HZ.out (by (repeat (with_reducible first | refine Chg.plus ?_ _ _ | refine Chg.alloc ?_ _ | refine Chg.drew ?_ | exact Chg.refl _ _)))⟩
theorem s74 (B : Nat) (vi vo : Value) (N : Nat) (S : Nat → Prop) (hN : N ≤ 80000000) (a n : Nat) (oa : okK a) (hn : n ≤ lenK a) (w : World) (H : Bs w B vi vo N S) : Calls Tryz.prog 74 #[.pointer (some ⟨B, 0, none⟩), .agg #[.int .u64 (hK a), .int .u64 (lK a), .bool true, .bool (sK a), .string ⟨#[]⟩, .int .u8 ((n : Nat) + 1 : Int)]] w fun e w' => e = .returned (.tuple #[]) ∧ Stp w B vi vo (N + 1) (fun k => S k ∨ ((pfR a n).1 ≤ k ∧ k ≤ (pfR a n).2)) w' := by
  have HH : Hid _ := H
  clear H
  have OR := pfR_ok a n oa hn
  go_enter Tryz.func74, Tryz.ntmps74

  go_wp2_with (first | (go_at_call 106; (with_reducible refine (k106 a n oa hn _).mono ?_); rintro e w' ⟨rfl, dd, oo, rfl⟩) | (go_at_call 107; (with_reducible refine (k107 (pfR a n) OR _).mono ?_); rintro e w' ⟨rfl, dd, oo, rfl⟩))
  refine (s72 B vi vo N S hN (pfR a n) OR _ (Bs.chg0 HH.out (by (repeat (with_reducible first | refine Chg.plus ?_ _ _ | refine Chg.alloc ?_ _ | refine Chg.drew ?_ | exact Chg.refl _ _))))).mono ?_
  rintro e w' ⟨rfl, Z⟩
  have HZ : Hid _ := Z
  clear Z
  go_wp2_with fail
  go_end0
  exact ⟨rfl, Stp.from0 HZ.out (by (repeat (with_reducible first | refine Chg.plus ?_ _ _ | refine Chg.alloc ?_ _ | refine Chg.drew ?_ | exact Chg.refl _ _)))⟩
theorem s75 (B : Nat) (vi vo : Value) (N : Nat) (S : Nat → Prop) (hN : N ≤ 80000000) (a n : Nat) (oa : okK a) (hn : n ≤ lenK a) (w : World) (H : Bs w B vi vo N S) : Calls Tryz.prog 75 #[.pointer (some ⟨B, 0, none⟩), .agg #[.int .u64 (hK a), .int .u64 (lK a), .bool true, .bool (sK a), .string ⟨#[]⟩, .int .u8 ((n : Nat) + 1 : Int)]] w fun e w' => e = .returned (.tuple #[]) ∧ Stp w B vi vo (N + 1) (fun k => S k ∧ ¬ ((pfR a n).1 ≤ k ∧ k ≤ (pfR a n).2)) w' := by
  have HH : Hid _ := H
  clear H
  have OR := pfR_ok a n oa hn
  go_enter Tryz.func75, Tryz.ntmps75

  go_wp2_with (first | (go_at_call 106; (with_reducible refine (k106 a n oa hn _).mono ?_); rintro e w' ⟨rfl, dd, oo, rfl⟩) | (go_at_call 107; (with_reducible refine (k107 (pfR a n) OR _).mono ?_); rintro e w' ⟨rfl, dd, oo, rfl⟩))
  refine (s73 B vi vo N S hN (pfR a n) OR _ (Bs.chg0 HH.out (by (repeat (with_reducible first | refine Chg.plus ?_ _ _ | refine Chg.alloc ?_ _ | refine Chg.drew ?_ | exact Chg.refl _ _))))).mono ?_
  rintro e w' ⟨rfl, Z⟩
  have HZ : Hid _ := Z
  clear Z
  go_wp2_with fail
  go_end0
  exact ⟨rfl, Stp.from0 HZ.out (by (repeat (with_reducible first | refine Chg.plus ?_ _ _ | refine Chg.alloc ?_ _ | refine Chg.drew ?_ | exact Chg.refl _ _)))⟩
end Go.Proofs.YtmoabfpdlbngeaaGreatDoor
end
