/-
  Part of the proofs on the laws of pub-addresssets: joined texts (La, A11).
-/
import Derived.Test.YtmoabfpdlbngeaaGreatDoorVA8
section
set_option linter.unusedSimpArgs false
/- The last address of a prefix: the bits behind it are set, one by one. -/
namespace Go.Proofs.YtmoabfpdlbngeaaGreatDoor
open Go.RowKit
set_option linter.unusedVariables false
def lastN (ix : Nat → Nat) (n : Nat) (x : Nat → Nat) : Nat → (Nat → Nat)
  | 0 => x
  | m + 1 => fun j => if j = ix (n + m) then lastN ix n x m (ix (n + m)) ||| 2 ^ (7 - (n + m) % 8) else lastN ix n x m j
theorem lastN_lt (ix : Nat → Nat) (n : Nat) (x : Nat → Nat) (hx : ∀ j, x j < 256) : ∀ m j, lastN ix n x m j < 256 := by
  intro m
  induction m with
  | zero => exact hx
  | succ m ih =>
    intro j
    simp only [lastN]
    split
    · have h1 : 2 ^ (7 - (n + m) % 8) < 2 ^ 8 := Nat.pow_lt_pow_right (by omega) (by omega)
      have := Nat.or_lt_two_pow (n := 8) (ih (ix (n + m))) h1
      simpa using this
    · exact ih j
theorem lastG_eq (ix : Nat → Nat) (n : Nat) (x : Nat → Nat) (hx : ∀ j, x j < 256) : ∀ m j, lastG ix n (fun j => ((x j : Nat) : Int)) m j = ((lastN ix n x m j : Nat) : Int) := by
  intro m
  induction m with
  | zero => intro j; rfl
  | succ m ih =>
    intro j
    simp only [lastG, lastN]
    split
    · rw [ih]
      have h1 : 2 ^ (7 - (n + m) % 8) < 2 ^ 8 := Nat.pow_lt_pow_right (by omega) (by omega)
      have e : (2 ^ (7 - (n + m) % 8) % 256 : Int) = ((2 ^ (7 - (n + m) % 8) : Nat) : Int) := by
        have : ((2 ^ (7 - (n + m) % 8) : Nat) : Int) = (2 : Int) ^ (7 - (n + m) % 8) := by simp
        rw [← this]
        have h2 : 2 ^ (7 - (n + m) % 8) < 256 := h1
        exact Int.emod_eq_of_lt (Int.natCast_nonneg _) (show ((2 ^ (7 - (n + m) % 8) : Nat) : Int) < ((256 : Nat) : Int) from Int.ofNat_lt.mpr h2)
      rw [e, u8_or_nat _ _ (lastN_lt ix n x hx m _) h1]
    · exact ih j
theorem testBit_pow (q p : Nat) : (2 ^ q).testBit p = decide (q = p) := by
  rw [Nat.testBit_two_pow]
theorem lastN_bit (off n : Nat) (x : Nat → Nat) : ∀ m j p, p < 8 → (lastN (fun k => off + k / 8) n x m j).testBit p = ((x j).testBit p || decide (8 * off + n ≤ 8 * j + 7 - p ∧ 8 * j + 7 - p < 8 * off + n + m)) := by
  intro m
  induction m with
  | zero =>
    intro j p hp
    have : decide (8 * off + n ≤ 8 * j + 7 - p ∧ 8 * j + 7 - p < 8 * off + n + 0) = false := decide_eq_false (by omega)
    simp [lastN, this]
    omega
  | succ m ih =>
    intro j p hp
    simp only [lastN]
    split
    · rename_i hj
      rw [Nat.testBit_or, ← hj, ih j p hp, testBit_pow, Bool.or_assoc]
      congr 1
      rw [Bool.eq_iff_iff]
      simp only [Bool.or_eq_true, decide_eq_true_eq]
      omega
    · rename_i hj
      rw [ih j p hp]
      congr 1
      rw [Bool.eq_iff_iff]
      simp only [decide_eq_true_eq]
      omega
/-- eight bytes as a number -/
def num8 (f : Nat → Nat) : Nat := ((((((f 0 * 256 + f 1) * 256 + f 2) * 256 + f 3) * 256 + f 4) * 256 + f 5) * 256 + f 6) * 256 + f 7
theorem bit_step (a b i : Nat) (hb : b < 256) : (a * 256 + b).testBit i = if i < 8 then b.testBit i else a.testBit (i - 8) := by
  have := Nat.testBit_two_pow_mul_add a (i := 8) (b := b) hb i
  rw [← this]
  congr 1
  omega
theorem num8_bit (f : Nat → Nat) (hf : ∀ j, f j < 256) (i : Nat) (hi : i < 64) : (num8 f).testBit i = (f (7 - i / 8)).testBit (i % 8) := by
  unfold num8
  rw [bit_step _ _ _ (hf 7)]
  split
  · rw [show 7 - i / 8 = 7 by omega, show i % 8 = i by omega]
  rw [bit_step _ _ _ (hf 6)]
  split
  · rw [show 7 - i / 8 = 6 by omega, show i % 8 = i - 8 by omega]
  rw [bit_step _ _ _ (hf 5)]
  split
  · rw [show 7 - i / 8 = 5 by omega, show i % 8 = i - 8 - 8 by omega]
  rw [bit_step _ _ _ (hf 4)]
  split
  · rw [show 7 - i / 8 = 4 by omega, show i % 8 = i - 8 - 8 - 8 by omega]
  rw [bit_step _ _ _ (hf 3)]
  split
  · rw [show 7 - i / 8 = 3 by omega, show i % 8 = i - 8 - 8 - 8 - 8 by omega]
  rw [bit_step _ _ _ (hf 2)]
  split
  · rw [show 7 - i / 8 = 2 by omega, show i % 8 = i - 8 - 8 - 8 - 8 - 8 by omega]
  rw [bit_step _ _ _ (hf 1)]
  split
  · rw [show 7 - i / 8 = 1 by omega, show i % 8 = i - 8 - 8 - 8 - 8 - 8 - 8 by omega]
  · rw [show 7 - i / 8 = 0 by omega, show i % 8 = i - 8 - 8 - 8 - 8 - 8 - 8 - 8 by omega]
theorem num8_lt (f : Nat → Nat) (hf : ∀ j, f j < 256) : num8 f < 18446744073709551616 := by
  unfold num8
  have h0 := hf 0; have h1 := hf 1; have h2 := hf 2; have h3 := hf 3; have h4 := hf 4; have h5 := hf 5; have h6 := hf 6; have h7 := hf 7
  omega
theorem sh8_num (f : Nat → Nat) (hf : ∀ j, f j < 256) : sh8 (sh8 (sh8 (sh8 (sh8 (sh8 (sh8 (sh8 0 (f 0 : Nat)) (f 1 : Nat)) (f 2 : Nat)) (f 3 : Nat)) (f 4 : Nat)) (f 5 : Nat)) (f 6 : Nat)) (f 7 : Nat) = (num8 f : Int) := by
  have h0 := hf 0; have h1 := hf 1; have h2 := hf 2; have h3 := hf 3; have h4 := hf 4; have h5 := hf 5; have h6 := hf 6; have h7 := hf 7
  unfold num8
  rw [sh8_eq 0 _ (by omega) (by omega) (by omega) (by omega), sh8_eq _ (f 1 : Nat) (by omega) (by omega) (by omega) (by omega), sh8_eq _ (f 2 : Nat) (by omega) (by omega) (by omega) (by omega), sh8_eq _ (f 3 : Nat) (by omega) (by omega) (by omega) (by omega), sh8_eq _ (f 4 : Nat) (by omega) (by omega) (by omega) (by omega), sh8_eq _ (f 5 : Nat) (by omega) (by omega) (by omega) (by omega), sh8_eq _ (f 6 : Nat) (by omega) (by omega) (by omega) (by omega), sh8_eq _ (f 7 : Nat) (by omega) (by omega) (by omega) (by omega)]
  omega
/-- the bytes of two words -/
def byN (h l : Nat) (j : Nat) : Nat := if j < 8 then h / 2 ^ (56 - 8 * j) % 256 else l / 2 ^ (120 - 8 * j) % 256
theorem byN_lt (h l j : Nat) : byN h l j < 256 := by unfold byN; split <;> omega
theorem b16_eq (h l : Nat) (j : Nat) (hj : j < 16) : b16 (h : Int) (l : Int) j = ((byN h l j : Nat) : Int) := by
  have : j = 0 ∨ j = 1 ∨ j = 2 ∨ j = 3 ∨ j = 4 ∨ j = 5 ∨ j = 6 ∨ j = 7 ∨ j = 8 ∨ j = 9 ∨ j = 10 ∨ j = 11 ∨ j = 12 ∨ j = 13 ∨ j = 14 ∨ j = 15 := by omega
  rcases this with h1 | h1 | h1 | h1 | h1 | h1 | h1 | h1 | h1 | h1 | h1 | h1 | h1 | h1 | h1 | h1 <;> subst h1 <;> simp [b16, byN]
theorem num8_hi (h l : Nat) (hh : h < 18446744073709551616) : num8 (byN h l) = h := by
  simp only [num8, byN]
  simp
  omega
theorem num8_lo (h l : Nat) (hl : l < 18446744073709551616) : num8 (fun j => byN h l (8 + j)) = l := by
  simp only [num8, byN]
  simp
  omega
/-- the words behind the loop: the bits from number c on are set -/
def lastH (c h : Nat) : Nat := h ||| (2 ^ (64 - c) - 1)
def lastL (c l : Nat) : Nat := l ||| (2 ^ (min 64 (128 - c)) - 1)
theorem low_bits (q i : Nat) : (2 ^ q - 1).testBit i = decide (i < q) := Nat.testBit_two_pow_sub_one q i
theorem lastH_lt (c h : Nat) (hh : h < 18446744073709551616) : lastH c h < 18446744073709551616 := by
  have h2 : 2 ^ (64 - c) ≤ 2 ^ 64 := Nat.pow_le_pow_right (by omega) (by omega)
  have h3 : 0 < 2 ^ (64 - c) := Nat.two_pow_pos _
  exact Nat.or_lt_two_pow (n := 64) hh (by omega)
theorem lastL_lt (c l : Nat) (hl : l < 18446744073709551616) : lastL c l < 18446744073709551616 := by
  have h2 : 2 ^ (min 64 (128 - c)) ≤ 2 ^ 64 := Nat.pow_le_pow_right (by omega) (by omega)
  have h3 : 0 < 2 ^ (min 64 (128 - c)) := Nat.two_pow_pos _
  exact Nat.or_lt_two_pow (n := 64) hl (by omega)
theorem eq_of_bits (a b : Nat) (ha : a < 18446744073709551616) (hb : b < 18446744073709551616) (h : ∀ i, i < 64 → a.testBit i = b.testBit i) : a = b := by
  apply Nat.eq_of_testBit_eq
  intro i
  by_cases hi : i < 64
  · exact h i hi
  · rw [Nat.testBit_lt_two_pow (Nat.lt_of_lt_of_le (show a < 2 ^ 64 from ha) (Nat.pow_le_pow_right (by omega) (by omega))), Nat.testBit_lt_two_pow (Nat.lt_of_lt_of_le (show b < 2 ^ 64 from hb) (Nat.pow_le_pow_right (by omega) (by omega)))]
theorem lastN_hi (off n m h l : Nat) (hh : h < 18446744073709551616) (hs : 8 * off + n + m = 128) : num8 (lastN (fun k => off + k / 8) n (byN h l) m) = lastH (8 * off + n) h := by
  refine eq_of_bits _ _ (num8_lt _ (lastN_lt _ _ _ (byN_lt h l) m)) (lastH_lt _ _ hh) fun i hi => ?_
  rw [num8_bit _ (lastN_lt _ _ _ (byN_lt h l) m) i hi, lastN_bit off n _ m _ _ (by omega), lastH, Nat.testBit_or, low_bits, ← num8_bit _ (byN_lt h l) i hi, num8_hi h l hh]
  congr 1
  rw [Bool.eq_iff_iff]
  simp only [decide_eq_true_eq]
  omega
theorem lastN_lo (off n m h l : Nat) (hl : l < 18446744073709551616) (hs : 8 * off + n + m = 128) : num8 (fun j => lastN (fun k => off + k / 8) n (byN h l) m (8 + j)) = lastL (8 * off + n) l := by
  refine eq_of_bits _ _ (num8_lt _ (fun j => lastN_lt _ _ _ (byN_lt h l) m _)) (lastL_lt _ _ hl) fun i hi => ?_
  rw [num8_bit _ (fun j => lastN_lt _ _ _ (byN_lt h l) m _) i hi, lastN_bit off n _ m _ _ (by omega), lastL, Nat.testBit_or, low_bits]
  have e : (byN h l (8 + (7 - i / 8))).testBit (i % 8) = l.testBit i := by
    have := num8_bit (fun j => byN h l (8 + j)) (fun j => byN_lt h l _) i hi
    rw [num8_lo h l hl] at this
    exact this.symm
  rw [e]
  congr 1
  rw [Bool.eq_iff_iff]
  simp only [decide_eq_true_eq]
  omega
end Go.Proofs.YtmoabfpdlbngeaaGreatDoor
end

section
namespace Go.Proofs.YtmoabfpdlbngeaaGreatDoor
open Go.RowKit
set_option maxHeartbeats 400000
set_option linter.unusedVariables false
set_option linter.unusedSimpArgs false
attribute [local go_sem] arr16_get arr16_set
theorem c148m (lx : Int) (hq : (lx / 4294967296 == 65535) = true) (w : World) : Calls Tryz.prog 148 #[.agg #[.int .u64 0, .int .u64 lx, .bool true, .bool true, .string ⟨#[]⟩]] w fun e w' => e = .returned (.bool true) ∧ Plus w w' := by
  go_enter Tryz.func148, Tryz.ntmps148
  go_wp2_with (first | (go_at_call 133; (with_reducible refine (c133 _ _ _ _).mono ?_); rintro e w' ⟨rfl, dd, oo, rfl⟩))
  go_ret
  exact ⟨rfl, by repeat (first | exact Plus.refl _ | refine Plus.alloc ?_ _ | refine Plus.plus ?_ _ _ | refine Plus.drew ?_ | refine Plus.drewN ?_ _)⟩

theorem c122m (lx : Int) (hq : (lx / 4294967296 == 65535) = true) (w : World) : Calls Tryz.prog 122 #[.agg #[.int .u64 0, .int .u64 lx, .bool true, .bool true, .string ⟨#[]⟩]] w fun e w' => e = .returned (.agg #[.int .u64 0, .int .u64 lx, .bool true, .bool false, .string ⟨#[]⟩]) ∧ Plus w w' := by
  have HQ : Hid _ := hq
  clear hq
  go_enter Tryz.func122, Tryz.ntmps122
  go_wp2_with (first | (go_at_call 148; (with_reducible refine (c148m _ HQ.out _).mono ?_); rintro e w' ⟨rfl, dd, oo, rfl⟩) | (go_at_call 128; (with_reducible refine (c128 _).mono ?_); rintro e w' ⟨rfl, dd, oo, rfl⟩))
  exact bodyPost_ret (v := .agg #[.int .u64 0, .int .u64 lx, .bool true, .bool false, .string ⟨#[]⟩]) (by simp [results, Tryz.results122, go_sem, IntWalk.iteOmega, ↓IntWalk.iteOmega]) rfl ⟨rfl, by repeat (first | exact Plus.refl _ | refine Plus.alloc ?_ _ | refine Plus.plus ?_ _ _ | refine Plus.drew ?_ | refine Plus.drewN ?_ _)⟩

theorem arr16_congr (f g : Nat → Int) (h : ∀ j, j < 16 → f j = g j) : arr16 f = arr16 g := by
  unfold arr16
  rw [h 0 (by omega), h 1 (by omega), h 2 (by omega), h 3 (by omega), h 4 (by omega), h 5 (by omega), h 6 (by omega), h 7 (by omega), h 8 (by omega), h 9 (by omega), h 10 (by omega), h 11 (by omega), h 12 (by omega), h 13 (by omega), h 14 (by omega), h 15 (by omega)]
def byZ (H L : Nat) (j : Nat) : Int := ((byN H L j : Nat) : Int)
theorem arr_start (H L : Nat) : (#[.int .u8 ((H : Int) / 72057594037927936 % 256), .int .u8 ((H : Int) / 281474976710656 % 256), .int .u8 ((H : Int) / 1099511627776 % 256), .int .u8 ((H : Int) / 4294967296 % 256), .int .u8 ((H : Int) / 16777216 % 256), .int .u8 ((H : Int) / 65536 % 256), .int .u8 ((H : Int) / 256 % 256), .int .u8 ((H : Int) % 256), .int .u8 ((L : Int) / 72057594037927936 % 256), .int .u8 ((L : Int) / 281474976710656 % 256), .int .u8 ((L : Int) / 1099511627776 % 256), .int .u8 ((L : Int) / 4294967296 % 256), .int .u8 ((L : Int) / 16777216 % 256), .int .u8 ((L : Int) / 65536 % 256), .int .u8 ((L : Int) / 256 % 256), .int .u8 ((L : Int) % 256)] : Array Value) = arr16 (byZ H L) := by
  have h1 : (#[.int .u8 ((H : Int) / 72057594037927936 % 256), .int .u8 ((H : Int) / 281474976710656 % 256), .int .u8 ((H : Int) / 1099511627776 % 256), .int .u8 ((H : Int) / 4294967296 % 256), .int .u8 ((H : Int) / 16777216 % 256), .int .u8 ((H : Int) / 65536 % 256), .int .u8 ((H : Int) / 256 % 256), .int .u8 ((H : Int) % 256), .int .u8 ((L : Int) / 72057594037927936 % 256), .int .u8 ((L : Int) / 281474976710656 % 256), .int .u8 ((L : Int) / 1099511627776 % 256), .int .u8 ((L : Int) / 4294967296 % 256), .int .u8 ((L : Int) / 16777216 % 256), .int .u8 ((L : Int) / 65536 % 256), .int .u8 ((L : Int) / 256 % 256), .int .u8 ((L : Int) % 256)] : Array Value) = arr16 (b16 (H : Int) (L : Int)) := rfl
  rw [h1]
  exact arr16_congr _ _ fun j hj => b16_eq H L j hj
theorem c94L (OFF n m H L : Nat) (hh : H < 18446744073709551616) (hl : L < 18446744073709551616) (hs : 8 * OFF + n + m = 128) (w : World) : Calls Tryz.prog 94 #[.agg #[.int .u8 (lastG (fun k => OFF + k / 8) n (byZ H L) m 0), .int .u8 (lastG (fun k => OFF + k / 8) n (byZ H L) m 1), .int .u8 (lastG (fun k => OFF + k / 8) n (byZ H L) m 2), .int .u8 (lastG (fun k => OFF + k / 8) n (byZ H L) m 3), .int .u8 (lastG (fun k => OFF + k / 8) n (byZ H L) m 4), .int .u8 (lastG (fun k => OFF + k / 8) n (byZ H L) m 5), .int .u8 (lastG (fun k => OFF + k / 8) n (byZ H L) m 6), .int .u8 (lastG (fun k => OFF + k / 8) n (byZ H L) m 7), .int .u8 (lastG (fun k => OFF + k / 8) n (byZ H L) m 8), .int .u8 (lastG (fun k => OFF + k / 8) n (byZ H L) m 9), .int .u8 (lastG (fun k => OFF + k / 8) n (byZ H L) m 10), .int .u8 (lastG (fun k => OFF + k / 8) n (byZ H L) m 11), .int .u8 (lastG (fun k => OFF + k / 8) n (byZ H L) m 12), .int .u8 (lastG (fun k => OFF + k / 8) n (byZ H L) m 13), .int .u8 (lastG (fun k => OFF + k / 8) n (byZ H L) m 14), .int .u8 (lastG (fun k => OFF + k / 8) n (byZ H L) m 15)]] w fun e w' => e = .returned (.agg #[.int .u64 ((lastH (8 * OFF + n) H : Nat) : Int), .int .u64 ((lastL (8 * OFF + n) L : Nat) : Int), .bool true, .bool true, .string ⟨#[]⟩]) ∧ Plus w w' := by
  have hq := c94 (lastG (fun k => OFF + k / 8) n (byZ H L) m 0) (lastG (fun k => OFF + k / 8) n (byZ H L) m 1) (lastG (fun k => OFF + k / 8) n (byZ H L) m 2) (lastG (fun k => OFF + k / 8) n (byZ H L) m 3) (lastG (fun k => OFF + k / 8) n (byZ H L) m 4) (lastG (fun k => OFF + k / 8) n (byZ H L) m 5) (lastG (fun k => OFF + k / 8) n (byZ H L) m 6) (lastG (fun k => OFF + k / 8) n (byZ H L) m 7) (lastG (fun k => OFF + k / 8) n (byZ H L) m 8) (lastG (fun k => OFF + k / 8) n (byZ H L) m 9) (lastG (fun k => OFF + k / 8) n (byZ H L) m 10) (lastG (fun k => OFF + k / 8) n (byZ H L) m 11) (lastG (fun k => OFF + k / 8) n (byZ H L) m 12) (lastG (fun k => OFF + k / 8) n (byZ H L) m 13) (lastG (fun k => OFF + k / 8) n (byZ H L) m 14) (lastG (fun k => OFF + k / 8) n (byZ H L) m 15) w
  have e : ∀ j, lastG (fun k => OFF + k / 8) n (byZ H L) m j = ((lastN (fun k => OFF + k / 8) n (byN H L) m j : Nat) : Int) := fun j => lastG_eq _ n (byN H L) (byN_lt H L) m j
  simp only [e] at hq ⊢
  have e1 := sh8_num (lastN (fun k => OFF + k / 8) n (byN H L) m) (lastN_lt _ n _ (byN_lt H L) m)
  have e2 := sh8_num (fun j => lastN (fun k => OFF + k / 8) n (byN H L) m (8 + j)) (fun j => lastN_lt _ n _ (byN_lt H L) m _)
  rw [lastN_hi OFF n m H L hh hs] at e1
  rw [lastN_lo OFF n m H L hl hs] at e2
  simp only [Nat.reduceAdd] at e2
  rw [e1, e2] at hq
  exact hq
theorem arr_start0 (L : Nat) : (#[.int .u8 0, .int .u8 0, .int .u8 0, .int .u8 0, .int .u8 0, .int .u8 0, .int .u8 0, .int .u8 0, .int .u8 ((L : Int) / 72057594037927936 % 256), .int .u8 ((L : Int) / 281474976710656 % 256), .int .u8 ((L : Int) / 1099511627776 % 256), .int .u8 ((L : Int) / 4294967296 % 256), .int .u8 ((L : Int) / 16777216 % 256), .int .u8 ((L : Int) / 65536 % 256), .int .u8 ((L : Int) / 256 % 256), .int .u8 ((L : Int) % 256)] : Array Value) = arr16 (byZ 0 L) := by
  rw [← arr_start 0 L]
  rfl
theorem c94L0 (n m H L : Nat) (hh : H < 18446744073709551616) (hl : L < 18446744073709551616) (hs : 8 * 0 + n + m = 128) (w : World) : Calls Tryz.prog 94 #[.agg #[.int .u8 (lastG (fun k => k / 8) n (byZ H L) m 0), .int .u8 (lastG (fun k => k / 8) n (byZ H L) m 1), .int .u8 (lastG (fun k => k / 8) n (byZ H L) m 2), .int .u8 (lastG (fun k => k / 8) n (byZ H L) m 3), .int .u8 (lastG (fun k => k / 8) n (byZ H L) m 4), .int .u8 (lastG (fun k => k / 8) n (byZ H L) m 5), .int .u8 (lastG (fun k => k / 8) n (byZ H L) m 6), .int .u8 (lastG (fun k => k / 8) n (byZ H L) m 7), .int .u8 (lastG (fun k => k / 8) n (byZ H L) m 8), .int .u8 (lastG (fun k => k / 8) n (byZ H L) m 9), .int .u8 (lastG (fun k => k / 8) n (byZ H L) m 10), .int .u8 (lastG (fun k => k / 8) n (byZ H L) m 11), .int .u8 (lastG (fun k => k / 8) n (byZ H L) m 12), .int .u8 (lastG (fun k => k / 8) n (byZ H L) m 13), .int .u8 (lastG (fun k => k / 8) n (byZ H L) m 14), .int .u8 (lastG (fun k => k / 8) n (byZ H L) m 15)]] w fun e w' => e = .returned (.agg #[.int .u64 ((lastH n H : Nat) : Int), .int .u64 ((lastL n L : Nat) : Int), .bool true, .bool true, .string ⟨#[]⟩]) ∧ Plus w w' := by
  have hq := c94L 0 n m H L hh hl hs w
  simp only [Nat.zero_add, Nat.mul_zero] at hq
  exact hq
set_option maxRecDepth 100000 in
theorem c71_6 (H L : Nat) (n : Nat) (n1 : n ≤ 128) (wh : H < 18446744073709551616) (wl : L < 18446744073709551616) (w : World) : Calls Tryz.prog 71 #[.agg #[.int .u64 (H : Int), .int .u64 (L : Int), .bool true, .bool true, .string ⟨#[]⟩, .int .u8 ((n : Int) + 1)]] w fun e w' => e = .returned (.agg #[.int .u64 ((lastH n H : Nat) : Int), .int .u64 ((lastL n L : Nat) : Int), .bool true, .bool true, .string ⟨#[]⟩]) ∧ Plus w w' := by
  go_enter Tryz.func71, Tryz.ntmps71
  go_wp2_with fail
  refine (c120 _ _ _ _ (by omega) _).mono ?_
  rintro e w' ⟨rfl, d1, o1, rfl⟩
  go_wp2_with fail
  refine (c43 _ _ _ _ _).mono ?_
  rintro e w' ⟨rfl, d2, o2, rfl⟩
  go_wp2_with fail
  refine (c109 _ _ _ _).mono ?_
  rintro e w' ⟨rfl, d3, o3, rfl⟩
  go_wp2_with (first | (go_at_call 43; (with_reducible refine (c43 _ _ _ _ _).mono ?_); rintro e w' ⟨rfl, dd, oo, rfl⟩) | (go_at_call 121; (with_reducible refine (c121 _ _ _ _).mono ?_); rintro e w' ⟨rfl, dd, oo, rfl⟩) | (go_at_call 44; (with_reducible refine (c44 _ _ _ _ ?_ ?_ _).mono ?_); (iterate 2 (first | assumption | omega)); rintro e w' ⟨rfl, dd, oo, rfl⟩))
  go_loopw [6, 7, 8] (fun t6 t7 t8 wr => ∃ m : Nat, n + m ≤ 128 ∧ t6 = .int .u8 ((n : Int) + (m : Int)) ∧ ∃ d os, wr = ((((((w.alloc (.cells #[.int .u64 (H : Int), .int .u64 (L : Int), .bool true, .bool true, .string ⟨#[]⟩, .int .u8 ((n : Int) + 1)] 93)).alloc (.cells #[.int .u64 0, .int .u64 0, .bool false, .bool false, .string ⟨#[]⟩] 78)).plus d1 o1).plus d2 o2).plus d3 o3).alloc (.cells (arr16 (lastG (fun k => 0 + k / 8) n (byZ H L) m)) 149)).plus d os) (fun t6 _ _ _ => (128 - intOf t6).toNat)
  case atStart =>
    refine ⟨0, by omega, by simp, ?_, ?_, ?_⟩
    rotate_left 2
    · rw [World.plus_plus, World.plus_plus, arr_start]; rfl
  case round =>
    obtain ⟨m, hm, rfl, d, os, rfl⟩ := hrel
    by_cases q : n + m < 128
    · go_wp2_with fail
      go_roundw
      case rel =>
        refine ⟨m + 1, by omega, congrArg _ (by omega), d, os, ?_⟩
        simp only [lastG, Nat.zero_add]
      case measure => simp [intOf]; omega
    · have hs : 8 * 0 + n + m = 128 := by omega
      have HS : Hid _ := hs
      clear hs
      go_wp2_with (first | (go_at_call 94; (with_reducible refine (c94L0 n m H L wh wl HS.out _).mono ?_); rintro e w' ⟨rfl, dd, oo, rfl⟩) | (go_at_call 43; (with_reducible refine (c43 _ _ _ _ _).mono ?_); rintro e w' ⟨rfl, dd, oo, rfl⟩) | (go_at_call 121; (with_reducible refine (c121 _ _ _ _).mono ?_); rintro e w' ⟨rfl, dd, oo, rfl⟩))
      exact bodyPost_ret (v := .agg #[.int .u64 ((lastH n H : Nat) : Int), .int .u64 ((lastL n L : Nat) : Int), .bool true, .bool true, .string ⟨#[]⟩]) (by simp [results, Tryz.results71, go_sem, IntWalk.iteOmega, ↓IntWalk.iteOmega]) rfl ⟨rfl, by repeat (first | exact Plus.refl _ | refine Plus.alloc ?_ _ | refine Plus.plus ?_ _ _ | refine Plus.drew ?_ | refine Plus.drewN ?_ _)⟩

theorem lastL_map (n L : Nat) (q : L / 4294967296 = 65535) : lastL (96 + n) L / 4294967296 = 65535 := by
  unfold lastL
  have e : (4294967296 : Nat) = 2 ^ 32 := by decide
  rw [e] at q ⊢
  rw [← Nat.shiftRight_eq_div_pow] at q ⊢
  rw [Nat.shiftRight_or_distrib, q, Nat.shiftRight_eq_div_pow]
  have hb : 2 ^ (min 64 (128 - (96 + n))) ≤ 2 ^ 32 := Nat.pow_le_pow_right (by omega) (by omega)
  have hp : 0 < 2 ^ (min 64 (128 - (96 + n))) := Nat.two_pow_pos _
  rw [Nat.div_eq_of_lt (by omega)]
  rfl
theorem lastH_zero (n : Nat) : lastH (96 + n) 0 = 0 := by
  unfold lastH
  rw [show 64 - (96 + n) = 0 by omega]
  rfl
theorem c94L4 (n m L : Nat) (hl : L < 18446744073709551616) (hs : 8 * 12 + n + m = 128) (w : World) : Calls Tryz.prog 94 #[.agg #[.int .u8 (lastG (fun k => 12 + k / 8) n (byZ 0 L) m 0), .int .u8 (lastG (fun k => 12 + k / 8) n (byZ 0 L) m 1), .int .u8 (lastG (fun k => 12 + k / 8) n (byZ 0 L) m 2), .int .u8 (lastG (fun k => 12 + k / 8) n (byZ 0 L) m 3), .int .u8 (lastG (fun k => 12 + k / 8) n (byZ 0 L) m 4), .int .u8 (lastG (fun k => 12 + k / 8) n (byZ 0 L) m 5), .int .u8 (lastG (fun k => 12 + k / 8) n (byZ 0 L) m 6), .int .u8 (lastG (fun k => 12 + k / 8) n (byZ 0 L) m 7), .int .u8 (lastG (fun k => 12 + k / 8) n (byZ 0 L) m 8), .int .u8 (lastG (fun k => 12 + k / 8) n (byZ 0 L) m 9), .int .u8 (lastG (fun k => 12 + k / 8) n (byZ 0 L) m 10), .int .u8 (lastG (fun k => 12 + k / 8) n (byZ 0 L) m 11), .int .u8 (lastG (fun k => 12 + k / 8) n (byZ 0 L) m 12), .int .u8 (lastG (fun k => 12 + k / 8) n (byZ 0 L) m 13), .int .u8 (lastG (fun k => 12 + k / 8) n (byZ 0 L) m 14), .int .u8 (lastG (fun k => 12 + k / 8) n (byZ 0 L) m 15)]] w fun e w' => e = .returned (.agg #[.int .u64 0, .int .u64 ((lastL (96 + n) L : Nat) : Int), .bool true, .bool true, .string ⟨#[]⟩]) ∧ Plus w w' := by
  have hq := c94L 12 n m 0 L (by omega) hl hs w
  rw [show 8 * 12 + n = 96 + n by omega, lastH_zero] at hq
  exact hq
theorem mapB (n L : Nat) (q : L / 4294967296 = 65535) : (((lastL (96 + n) L : Nat) : Int) / 4294967296 == 65535) = true := by
  have := lastL_map n L q
  simp only [beq_iff_eq]
  omega
set_option maxRecDepth 100000 in
theorem c71_4 (L : Nat) (n : Nat) (n1 : n ≤ 32) (wl : L < 18446744073709551616) (wq : L / 4294967296 = 65535) (w : World) : Calls Tryz.prog 71 #[.agg #[.int .u64 0, .int .u64 (L : Int), .bool true, .bool false, .string ⟨#[]⟩, .int .u8 ((n : Int) + 1)]] w fun e w' => e = .returned (.agg #[.int .u64 0, .int .u64 ((lastL (96 + n) L : Nat) : Int), .bool true, .bool false, .string ⟨#[]⟩]) ∧ Plus w w' := by
  go_enter Tryz.func71, Tryz.ntmps71
  go_wp2_with fail
  refine (c120 _ _ _ _ (by omega) _).mono ?_
  rintro e w' ⟨rfl, d1, o1, rfl⟩
  go_wp2_with fail
  refine (c43 _ _ _ _ _).mono ?_
  rintro e w' ⟨rfl, d2, o2, rfl⟩
  go_wp2_with fail
  refine (c109 _ _ _ _).mono ?_
  rintro e w' ⟨rfl, d3, o3, rfl⟩
  go_wp2_with (first | (go_at_call 43; (with_reducible refine (c43 _ _ _ _ _).mono ?_); rintro e w' ⟨rfl, dd, oo, rfl⟩) | (go_at_call 121; (with_reducible refine (c121 _ _ _ _).mono ?_); rintro e w' ⟨rfl, dd, oo, rfl⟩) | (go_at_call 44; (with_reducible refine (c44 _ _ _ _ ?_ ?_ _).mono ?_); (iterate 2 (first | assumption | omega)); rintro e w' ⟨rfl, dd, oo, rfl⟩))
  go_loopw [6, 7, 8] (fun t6 t7 t8 wr => ∃ m : Nat, n + m ≤ 32 ∧ t6 = .int .u8 ((n : Int) + (m : Int)) ∧ ∃ d os, wr = ((((((w.alloc (.cells #[.int .u64 0, .int .u64 (L : Int), .bool true, .bool false, .string ⟨#[]⟩, .int .u8 ((n : Int) + 1)] 93)).alloc (.cells #[.int .u64 0, .int .u64 0, .bool false, .bool false, .string ⟨#[]⟩] 78)).plus d1 o1).plus d2 o2).plus d3 o3).alloc (.cells (arr16 (lastG (fun k => 12 + k / 8) n (byZ 0 L) m)) 149)).plus d os) (fun t6 _ _ _ => (32 - intOf t6).toNat)
  case atStart =>
    refine ⟨0, by omega, by simp, ?_, ?_, ?_⟩
    rotate_left 2
    · rw [World.plus_plus, World.plus_plus, arr_start0]; rfl
  case round =>
    obtain ⟨m, hm, rfl, d, os, rfl⟩ := hrel
    by_cases q : n + m < 32
    · go_wp2_with fail
      go_roundw
      case rel =>
        refine ⟨m + 1, by omega, congrArg _ (by omega), d, os, ?_⟩
        rfl
      case measure => simp [intOf]; omega
    · have hs : 8 * 12 + n + m = 128 := by omega
      have HS : Hid _ := hs
      clear hs
      go_wp2_with (first | (go_at_call 94; (with_reducible refine (c94L4 n m L wl HS.out _).mono ?_); rintro e w' ⟨rfl, dd, oo, rfl⟩) | (go_at_call 122; (with_reducible refine (c122m _ (mapB n L wq) _).mono ?_); rintro e w' ⟨rfl, dd, oo, rfl⟩) | (go_at_call 43; (with_reducible refine (c43 _ _ _ _ _).mono ?_); rintro e w' ⟨rfl, dd, oo, rfl⟩) | (go_at_call 121; (with_reducible refine (c121 _ _ _ _).mono ?_); rintro e w' ⟨rfl, dd, oo, rfl⟩))
      exact bodyPost_ret (v := .agg #[.int .u64 0, .int .u64 ((lastL (96 + n) L : Nat) : Int), .bool true, .bool false, .string ⟨#[]⟩]) (by simp [results, Tryz.results71, go_sem, IntWalk.iteOmega, ↓IntWalk.iteOmega]) rfl ⟨rfl, by repeat (first | exact Plus.refl _ | refine Plus.alloc ?_ _ | refine Plus.plus ?_ _ _ | refine Plus.drew ?_ | refine Plus.drewN ?_ _)⟩

end Go.Proofs.YtmoabfpdlbngeaaGreatDoor
end
