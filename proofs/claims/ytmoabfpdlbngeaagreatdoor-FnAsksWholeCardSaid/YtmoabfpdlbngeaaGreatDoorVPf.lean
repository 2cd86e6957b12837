/-
  Part of the proofs on the laws of pub-addresssets: joined texts (Pf).
-/
import Derived.Test.YtmoabfpdlbngeaaGreatDoorVB1
import Derived.Test.YtmoabfpdlbngeaaGreatDoorVLa
section
set_option linter.unusedSimpArgs false
/- Prefixes as ranges of keys: the numbers. -/
namespace Go.Proofs.YtmoabfpdlbngeaaGreatDoor
set_option linter.unusedVariables false
theorem and_hi (x p : Nat) (hx : x < 2 ^ 64) (hp : p ≤ 64) : x &&& ((2 ^ 64 - 1) ^^^ ((2 ^ 64 - 1) / 2 ^ p)) = x / 2 ^ (64 - p) * 2 ^ (64 - p) := by
  apply Nat.eq_of_testBit_eq
  intro i
  rw [Nat.testBit_and, Nat.testBit_xor, Nat.testBit_mul_two_pow, Nat.testBit_div_two_pow, Nat.testBit_div_two_pow, Nat.testBit_two_pow_sub_one, Nat.testBit_two_pow_sub_one]
  by_cases h1 : i < 64
  · by_cases h2 : 64 - p ≤ i
    · have e1 : decide (i + p < 64) = false := decide_eq_false (by omega)
      rw [e1, decide_eq_true h1, decide_eq_true (show i ≥ 64 - p from h2), show i - (64 - p) + (64 - p) = i by omega]
      simp
    · have e1 : decide (i + p < 64) = true := decide_eq_true (by omega)
      rw [e1, decide_eq_true h1, decide_eq_false (show ¬ i ≥ 64 - p by omega)]
      simp
  · have e1 : decide (i + p < 64) = false := decide_eq_false (by omega)
    have e2 : x.testBit i = false := Nat.testBit_lt_two_pow (Nat.lt_of_lt_of_le hx (Nat.pow_le_pow_right (by omega) (by omega)))
    have e3 : x.testBit (i - (64 - p) + (64 - p)) = false := by rw [show i - (64 - p) + (64 - p) = i by omega]; exact e2
    rw [e2, e3]
    simp
theorem and_lo (x q : Nat) (hx : x < 2 ^ 64) (hq : q ≤ 64) : x &&& ((2 ^ 64 - 1) * 2 ^ q % 2 ^ 64) = x / 2 ^ q * 2 ^ q := by
  apply Nat.eq_of_testBit_eq
  intro i
  rw [Nat.testBit_and, Nat.testBit_mod_two_pow, Nat.testBit_mul_two_pow, Nat.testBit_mul_two_pow, Nat.testBit_div_two_pow, Nat.testBit_two_pow_sub_one]
  by_cases h1 : i < 64
  · by_cases h2 : q ≤ i
    · rw [decide_eq_true h1, decide_eq_true (show i ≥ q from h2), decide_eq_true (show i - q < 64 by omega), show i - q + q = i by omega]
      simp
    · rw [decide_eq_false (show ¬ i ≥ q by omega)]
      simp
  · have e2 : x.testBit i = false := Nat.testBit_lt_two_pow (Nat.lt_of_lt_of_le hx (Nat.pow_le_pow_right (by omega) (by omega)))
    have e3 : x.testBit (i - q + q) = false := by rw [show i - q + q = i by omega]; exact e2
    rw [e2, e3]
    simp
theorem or_low (a q : Nat) : a * 2 ^ q ||| (2 ^ q - 1) = a * 2 ^ q + (2 ^ q - 1) := by
  rw [Nat.mul_comm]
  exact (Nat.two_pow_add_eq_or_of_lt (Nat.sub_lt (Nat.two_pow_pos q) (by omega)) a).symm
/-- A number of 128 bits without its lowest ones, by halves. -/
def topH (H n : Nat) : Nat := H / 2 ^ (64 - n) * 2 ^ (64 - n)
def topL (L n : Nat) : Nat := if n ≤ 64 then 0 else L / 2 ^ (128 - n) * 2 ^ (128 - n)
theorem pow64 (a b : Nat) (h : a + b = 64) : 2 ^ a * 2 ^ b = 18446744073709551616 := by
  rw [← Nat.pow_add, h]
theorem top_val (H L n : Nat) (hL : L < 18446744073709551616) (hn : n ≤ 128) : (H * 18446744073709551616 + L) / 2 ^ (128 - n) * 2 ^ (128 - n) = topH H n * 18446744073709551616 + topL L n := by
  unfold topH topL
  by_cases h : n ≤ 64
  · rw [if_pos h, Nat.add_zero]
    have e : 2 ^ (128 - n) = 18446744073709551616 * 2 ^ (64 - n) := by
      rw [show 128 - n = 64 + (64 - n) by omega, Nat.pow_add]
    have e2 : (H * 18446744073709551616 + L) / 18446744073709551616 = H := by omega
    rw [e, ← Nat.div_div_eq_div_mul, e2, Nat.mul_assoc]
    congr 1
    exact Nat.mul_comm _ _
  · rw [if_neg h, show 64 - n = 0 by omega, Nat.pow_zero, Nat.div_one, Nat.mul_one]
    have e : 18446744073709551616 = 2 ^ (n - 64) * 2 ^ (128 - n) := (pow64 _ _ (by omega)).symm
    have hp := Nat.two_pow_pos (128 - n)
    have e2 : (H * 18446744073709551616 + L) / 2 ^ (128 - n) = H * 2 ^ (n - 64) + L / 2 ^ (128 - n) := by
      rw [e, ← Nat.mul_assoc, Nat.add_comm, Nat.add_mul_div_right _ _ hp, Nat.add_comm]
    rw [e2, Nat.add_mul, Nat.mul_assoc, ← e]
theorem topH_lt (H n : Nat) (hH : H < 18446744073709551616) : topH H n + (2 ^ (64 - n) - 1) < 18446744073709551616 := by
  unfold topH
  by_cases h : n ≤ 64
  · have e : 18446744073709551616 = 2 ^ n * 2 ^ (64 - n) := (pow64 _ _ (by omega)).symm
    have hp := Nat.two_pow_pos (64 - n)
    have h1 : H / 2 ^ (64 - n) < 2 ^ n := by
      rw [Nat.div_lt_iff_lt_mul hp, ← e]; exact hH
    have h2 : (H / 2 ^ (64 - n) + 1) * 2 ^ (64 - n) ≤ 2 ^ n * 2 ^ (64 - n) := Nat.mul_le_mul_right _ h1
    rw [Nat.add_mul, Nat.one_mul, ← e] at h2
    omega
  · rw [show 64 - n = 0 by omega, Nat.pow_zero, Nat.div_one, Nat.mul_one]; omega
theorem topL_lt (L n : Nat) (hL : L < 18446744073709551616) (h : ¬ n ≤ 64) (hn : n ≤ 128) : topL L n + (2 ^ (128 - n) - 1) < 18446744073709551616 := by
  unfold topL
  rw [if_neg h]
  have e : 18446744073709551616 = 2 ^ (n - 64) * 2 ^ (128 - n) := (pow64 _ _ (by omega)).symm
  have hp := Nat.two_pow_pos (128 - n)
  have h1 : L / 2 ^ (128 - n) < 2 ^ (n - 64) := by
    rw [Nat.div_lt_iff_lt_mul hp, ← e]; exact hL
  have h2 : (L / 2 ^ (128 - n) + 1) * 2 ^ (128 - n) ≤ 2 ^ (n - 64) * 2 ^ (128 - n) := Nat.mul_le_mul_right _ h1
  rw [Nat.add_mul, Nat.one_mul, ← e] at h2
  omega
theorem lastH_top (H n : Nat) : lastH n (topH H n) = topH H n + (2 ^ (64 - n) - 1) := or_low _ _
theorem lastL_top (L n : Nat) (hn : n ≤ 128) : lastL n (topL L n) = if n ≤ 64 then 18446744073709551615 else topL L n + (2 ^ (128 - n) - 1) := by
  unfold lastL topL
  by_cases h : n ≤ 64
  · rw [if_pos h, if_pos h, show min 64 (128 - n) = 64 by omega]; rfl
  · rw [if_neg h, if_neg h, show min 64 (128 - n) = 128 - n by omega]; exact or_low _ _
theorem last_val (H L n : Nat) (hn : n ≤ 128) : topH H n * 18446744073709551616 + topL L n + (2 ^ (128 - n) - 1) = lastH n (topH H n) * 18446744073709551616 + lastL n (topL L n) := by
  rw [lastH_top, lastL_top L n hn]
  by_cases h : n ≤ 64
  · rw [if_pos h]
    have e : 2 ^ (128 - n) = 2 ^ (64 - n) * 18446744073709551616 := by
      rw [show 128 - n = (64 - n) + 64 by omega, Nat.pow_add]
    have e0 : topL L n = 0 := by unfold topL; rw [if_pos h]
    have hp := Nat.two_pow_pos (64 - n)
    rw [e, e0]
    omega
  · rw [if_neg h, show 64 - n = 0 by omega]
    omega
/-- How many bits an address has; a family's first key; the room of a prefix; its first and its last key. -/
def lenK (k : Nat) : Nat := if 8589934592 ≤ k then 128 else 32
def baseK (k : Nat) : Nat := if 8589934592 ≤ k then 8589934592 else 0
def roomK (k n : Nat) : Nat := 2 ^ (lenK k - n)
def pfA (k n : Nat) : Nat := baseK k + (k - baseK k) / roomK k n * roomK k n
def pfR (k n : Nat) : Nat × Nat := (pfA k n, pfA k n + (roomK k n - 1))
theorem roomK_pos (k n : Nat) : 0 < roomK k n := Nat.two_pow_pos _
def hN (k : Nat) : Nat := if 8589934592 ≤ k then (k - 8589934592) / 18446744073709551616 else 0
def lN (k : Nat) : Nat := if 8589934592 ≤ k then (k - 8589934592) % 18446744073709551616 else 281470681743360 + k
theorem hK_N (k : Nat) : hK k = ((hN k : Nat) : Int) := by unfold hK hN; split <;> rfl
theorem lK_N (k : Nat) : lK k = ((lN k : Nat) : Int) := by unfold lK lN; split <;> (first | rfl | omega)
theorem pf6 (k n : Nat) (o : okK k) (s : 8589934592 ≤ k) (hn : n ≤ 128) : pfA k n = 8589934592 + (topH (hN k) n * 18446744073709551616 + topL (lN k) n) ∧ (pfR k n).2 = 8589934592 + (lastH n (topH (hN k) n) * 18446744073709551616 + lastL n (topL (lN k) n)) := by
  have e : pfA k n = 8589934592 + (topH (hN k) n * 18446744073709551616 + topL (lN k) n) := by
    unfold pfA roomK baseK lenK hN lN
    rw [if_pos s, if_pos s, if_pos s, if_pos s, ← top_val _ _ n (Nat.mod_lt _ (by omega)) hn]
    generalize k - 8589934592 = V
    have eV : V / 18446744073709551616 * 18446744073709551616 + V % 18446744073709551616 = V := by omega
    rw [eV]
  refine ⟨e, ?_⟩
  have e3 : (pfR k n).2 = pfA k n + (roomK k n - 1) := rfl
  rw [e3, ← last_val _ _ n hn, e]
  unfold roomK lenK
  rw [if_pos s, Nat.add_assoc]
theorem pf6_key {x y : Nat} (hx : x < 18446744073709551616) (hy : y < 18446744073709551616) : okK (8589934592 + (x * 18446744073709551616 + y)) ∧ sK (8589934592 + (x * 18446744073709551616 + y)) = true ∧ hK (8589934592 + (x * 18446744073709551616 + y)) = (x : Int) ∧ lK (8589934592 + (x * 18446744073709551616 + y)) = (y : Int) := by
  have e : 8589934592 + (x * 18446744073709551616 + y) - 8589934592 = x * 18446744073709551616 + y := Nat.add_sub_cancel_left ..
  unfold okK sK hK lK
  rw [if_pos (Nat.le_add_right _ _), if_pos (Nat.le_add_right _ _), e]
  have e1 : (x * 18446744073709551616 + y) / 18446744073709551616 = x := by omega
  have e2 : (x * 18446744073709551616 + y) % 18446744073709551616 = y := by omega
  refine ⟨by omega, decide_eq_true (Nat.le_add_right _ _), ?_, ?_⟩
  · rw [e1]
  · rw [e2]
theorem hN_lt (k : Nat) (o : okK k) : hN k < 18446744073709551616 := by unfold okK at o; unfold hN; split <;> omega
theorem lN_lt (k : Nat) (o : okK k) : lN k < 18446744073709551616 := by unfold okK at o; unfold lN; split <;> omega
theorem topH_lt' (H n : Nat) (hH : H < 18446744073709551616) : topH H n < 18446744073709551616 := by have := topH_lt H n hH; omega
theorem topL_lt' (L n : Nat) (hL : L < 18446744073709551616) : topL L n < 18446744073709551616 := by
  unfold topL
  split
  · omega
  · exact Nat.lt_of_le_of_lt (Nat.div_mul_le_self _ _) hL
/-- The prefix of an address of 16 bytes. -/
theorem pf6_ok (k n : Nat) (o : okK k) (s : 8589934592 ≤ k) (hn : n ≤ 128) :
    (okK (pfA k n) ∧ sK (pfA k n) = true ∧ hK (pfA k n) = ((topH (hN k) n : Nat) : Int) ∧ lK (pfA k n) = ((topL (lN k) n : Nat) : Int)) ∧
    okK (pfR k n).2 ∧ sK (pfR k n).2 = true ∧ hK (pfR k n).2 = ((lastH n (topH (hN k) n) : Nat) : Int) ∧ lK (pfR k n).2 = ((lastL n (topL (lN k) n) : Nat) : Int) := by
  obtain ⟨e1, e2⟩ := pf6 k n o s hn
  rw [e1, e2]
  have h1 := hN_lt k o
  have h2 := lN_lt k o
  refine ⟨pf6_key (topH_lt' _ _ h1) (topL_lt' _ _ h2), pf6_key (lastH_lt _ _ (topH_lt' _ _ h1)) (lastL_lt _ _ (topL_lt' _ _ h2))⟩
theorem pf4_top (k n : Nat) (h : k < 4294967296) (hn : n ≤ 32) : (281470681743360 + k) / 2 ^ (32 - n) * 2 ^ (32 - n) = 281470681743360 + k / 2 ^ (32 - n) * 2 ^ (32 - n) ∧ k / 2 ^ (32 - n) * 2 ^ (32 - n) + (2 ^ (32 - n) - 1) < 4294967296 := by
  have e : 4294967296 = 2 ^ n * 2 ^ (32 - n) := by rw [← Nat.pow_add, show n + (32 - n) = 32 by omega]
  have hp := Nat.two_pow_pos (32 - n)
  have e2 : 281470681743360 = 65535 * 2 ^ n * 2 ^ (32 - n) := by rw [Nat.mul_assoc, ← e]
  constructor
  · have : (281470681743360 + k) / 2 ^ (32 - n) = 65535 * 2 ^ n + k / 2 ^ (32 - n) := by
      rw [e2, Nat.add_comm, Nat.add_mul_div_right _ _ hp, Nat.add_comm]
    rw [this, Nat.add_mul, ← e2]
  · have h1 : k / 2 ^ (32 - n) < 2 ^ n := by
      rw [Nat.div_lt_iff_lt_mul hp, ← e]; exact h
    have h2 : (k / 2 ^ (32 - n) + 1) * 2 ^ (32 - n) ≤ 2 ^ n * 2 ^ (32 - n) := Nat.mul_le_mul_right _ h1
    rw [Nat.add_mul, Nat.one_mul, ← e] at h2
    omega
theorem topL4 (L n : Nat) (hn : n ≤ 32) : topL L (96 + n) = L / 2 ^ (32 - n) * 2 ^ (32 - n) := by
  unfold topL
  rw [if_neg (by omega), show 128 - (96 + n) = 32 - n by omega]
/-- The prefix of an address of 4 bytes. -/
theorem pf4_ok (k n : Nat) (h : k < 4294967296) (hn : n ≤ 32) :
    (okK (pfA k n) ∧ sK (pfA k n) = false ∧ hK (pfA k n) = 0 ∧ lK (pfA k n) = ((topL (lN k) (96 + n) : Nat) : Int)) ∧
    okK (pfR k n).2 ∧ sK (pfR k n).2 = false ∧ hK (pfR k n).2 = 0 ∧ lK (pfR k n).2 = ((lastL (96 + n) (topL (lN k) (96 + n)) : Nat) : Int) := by
  have s : ¬ 8589934592 ≤ k := by omega
  have eA : pfA k n = k / 2 ^ (32 - n) * 2 ^ (32 - n) := by
    unfold pfA roomK baseK lenK
    rw [if_neg s, if_neg s, Nat.sub_zero, Nat.zero_add]
  have eZ : (pfR k n).2 = k / 2 ^ (32 - n) * 2 ^ (32 - n) + (2 ^ (32 - n) - 1) := by
    have e3 : (pfR k n).2 = pfA k n + (roomK k n - 1) := rfl
    rw [e3, eA]; unfold roomK lenK; rw [if_neg s]
  have eL : lN k = 281470681743360 + k := by unfold lN; rw [if_neg s]
  obtain ⟨t1, t2⟩ := pf4_top k n h hn
  rw [eA, eZ, lastL_top _ _ (by omega), if_neg (show ¬ 96 + n ≤ 64 by omega), topL4 _ _ hn, eL, t1, show 128 - (96 + n) = 32 - n by omega]
  generalize k / 2 ^ (32 - n) * 2 ^ (32 - n) = A at *
  generalize 2 ^ (32 - n) - 1 = Z at *
  unfold okK sK hK lK
  rw [if_neg (by omega), if_neg (by omega), if_neg (by omega), if_neg (by omega)]
  refine ⟨⟨by omega, decide_eq_false (by omega), rfl, by omega⟩, by omega, decide_eq_false (by omega), rfl, by omega⟩
theorem pfR_ok (k n : Nat) (o : okK k) (hn : n ≤ lenK k) : okR (pfR k n) := by
  unfold lenK at hn
  by_cases s : 8589934592 ≤ k
  · rw [if_pos s] at hn
    obtain ⟨⟨a1, a2, _⟩, b1, b2, _⟩ := pf6_ok k n o s hn
    exact ⟨a1, b1, a2.trans b2.symm, Nat.le_add_right _ _⟩
  · rw [if_neg s] at hn
    have h : k < 4294967296 := by unfold okK at o; omega
    obtain ⟨⟨a1, a2, _⟩, b1, b2, _⟩ := pf4_ok k n h hn
    exact ⟨a1, b1, a2.trans b2.symm, Nat.le_add_right _ _⟩
end Go.Proofs.YtmoabfpdlbngeaaGreatDoor
end
