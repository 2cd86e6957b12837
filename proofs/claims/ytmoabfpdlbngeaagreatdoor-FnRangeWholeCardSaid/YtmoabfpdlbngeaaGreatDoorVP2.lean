/-
  Part of the proofs on the laws of pub-addresssets: joined texts (P2, P3).
-/
import Derived.Test.YtmoabfpdlbngeaaGreatDoorVP1
import Derived.Test.YtmoabfpdlbngeaaGreatDoorVPf
import Derived.Lib.ItoaNum
section
/- Chains of blocks, plain: a range of numbers by the greatest blocks that are aligned and fit, one behind the other. -/
namespace Go.Proofs.YtmoabfpdlbngeaaGreatDoor
set_option linter.unusedVariables false
set_option linter.unusedSimpArgs false
theorem mult_gap {d x y : Nat} (hx : x % d = 0) (hy : y % d = 0) (h : x < y) : x + d ≤ y := by
  have e1 : d * (x / d) = x := by have := Nat.div_add_mod x d; omega
  have e2 : d * (y / d) = y := by have := Nat.div_add_mod y d; omega
  have h1 : x / d < y / d := by
    refine Nat.lt_of_not_le fun q => ?_
    have := Nat.mul_le_mul_left d q
    omega
  have := Nat.mul_le_mul_left d h1
  rw [Nat.mul_succ] at this
  omega
theorem mod_pow {x p q : Nat} (h : x % 2 ^ q = 0) (hp : p ≤ q) : x % 2 ^ p = 0 := by
  have e : 2 ^ q = 2 ^ p * 2 ^ (q - p) := by rw [← Nat.pow_add, show p + (q - p) = q by omega]
  have := Nat.mod_mul_right_mod x (2 ^ p) (2 ^ (q - p))
  rw [← e, h, Nat.zero_mod] at this
  exact this.symm
theorem pow_mod {p q : Nat} (hp : p ≤ q) : 2 ^ q % 2 ^ p = 0 := by
  rw [show q = p + (q - p) by omega, Nat.pow_add, Nat.mul_mod_right]
structure ChV (A B m : Nat) (f : Nat → Nat × Nat) : Prop where
  pos : 0 < m
  fst : (f 0).1 = A
  al : ∀ i, i < m → (f i).1 % 2 ^ (f i).2 = 0
  fit : ∀ i, i < m → (f i).1 + 2 ^ (f i).2 ≤ B + 1
  top : ∀ i, i < m → ∀ q, (f i).2 < q → (f i).1 % 2 ^ q = 0 → ¬ (f i).1 + 2 ^ q ≤ B + 1
  nxt : ∀ i, i + 1 < m → (f (i + 1)).1 = (f i).1 + 2 ^ (f i).2
  lst : (f (m - 1)).1 + 2 ^ (f (m - 1)).2 = B + 1
variable {A B m : Nat} {f : Nat → Nat × Nat}
theorem pow_lt' {p q : Nat} (h : p < q) : 2 ^ p < 2 ^ q := Nat.pow_lt_pow_right (by omega) h
theorem ChV.one {q : Nat} (h : A % 2 ^ q = 0) (h2 : A + 2 ^ q = B + 1) : ChV A B 1 (fun _ => (A, q)) :=
  ⟨by omega, rfl, fun i hi => h, fun i hi => Nat.le_of_eq h2, fun i hi p hp _ hq => by
    have hp' : q < p := hp
    have hq' : A + 2 ^ p ≤ B + 1 := hq
    have := pow_lt' hp'
    omega, fun i hi => by omega, h2⟩
theorem ChV.ge (C : ChV A B m f) (i : Nat) : i < m → A ≤ (f i).1 := by
  induction i with
  | zero => intro h; rw [C.fst]; exact Nat.le_refl _
  | succ i ih =>
    intro h
    rw [C.nxt i h]
    exact Nat.le_trans (ih (by omega)) (Nat.le_add_right _ _)
theorem ChV.join {M m' S q : Nat} {f' : Nat → Nat × Nat} (hM : 0 < M) (C : ChV A (M - 1) m f) (C' : ChV M B m' f') (hS : S % 2 ^ (q + 1) = 0) (h1 : S ≤ A) (h2 : A < M) (hMS : M = S + 2 ^ q) (h3 : M ≤ B) (h4 : B + 1 ≤ S + 2 ^ (q + 1)) (hne : ¬ (A = S ∧ B + 1 = S + 2 ^ (q + 1))) : ChV A B (m + m') (fun j => if j < m then f j else f' (j - m)) := by
  have hM1 : M - 1 + 1 = M := by omega
  have hMm : ∀ p, p ≤ q → M % 2 ^ p = 0 := fun p hp => by
    rw [hMS, Nat.add_mod, mod_pow hS (by omega : p ≤ q + 1), pow_mod hp]; rfl
  refine ⟨by have := C.pos; omega, ?_, fun i hi => ?_, fun i hi => ?_, fun i hi => ?_, fun i hi => ?_, ?_⟩
  · simp only [if_pos C.pos]; exact C.fst
  · by_cases e : i < m
    · simp only [if_pos e]; exact C.al i e
    · simp only [if_neg e]; exact C'.al (i - m) (by omega)
  · by_cases e : i < m
    · simp only [if_pos e]; have := C.fit i e; omega
    · simp only [if_neg e]; exact C'.fit (i - m) (by omega)
  · by_cases e : i < m
    · simp only [if_pos e]
      intro p hp hz hf
      have t := C.top i e p hp hz
      rw [hM1] at t
      have fi := C.fit i e
      rw [hM1] at fi
      have ge := C.ge i e
      have hpos := Nat.two_pow_pos (f i).2
      by_cases hpq : p ≤ q
      · exact t (mult_gap hz (hMm p hpq) (by omega))
      · have z1 : (f i).1 % 2 ^ (q + 1) = 0 := mod_pow hz (by omega)
        have e1 : (f i).1 = S := by
          rcases Nat.lt_or_ge S (f i).1 with l | l
          · have := mult_gap hS z1 l
            have : 2 ^ q ≤ 2 ^ (q + 1) := Nat.pow_le_pow_right (by omega) (by omega)
            omega
          · omega
        have e2 : 2 ^ (q + 1) ≤ 2 ^ p := Nat.pow_le_pow_right (by omega) (by omega)
        exact hne ⟨by omega, by omega⟩
    · simp only [if_neg e]; exact C'.top (i - m) (by omega)
  · by_cases e : i + 1 < m
    · simp only [if_pos e, if_pos (show i < m by omega)]; exact C.nxt i e
    · by_cases e2 : i < m
      · have e3 : i = m - 1 := by omega
        subst e3
        have hm := C.pos
        simp only [if_neg e, if_pos e2, show m - 1 + 1 - m = 0 by omega]
        rw [C'.fst, C.lst, hM1]
      · simp only [if_neg e, if_neg e2]
        have := C'.nxt (i - m) (by omega)
        rwa [show i - m + 1 = i + 1 - m by omega] at this
  · have := C'.pos
    simp only [if_neg (show ¬ m + m' - 1 < m by omega), show m + m' - 1 - m = m' - 1 by omega]
    exact C'.lst
theorem ChV.same {m' : Nat} {f' : Nat → Nat × Nat} (C : ChV A B m f) (C' : ChV A B m' f') (i : Nat) : i < m → i < m' → f i = f' i := by
  induction i with
  | zero =>
    intro h h'
    have e : (f 0).1 = (f' 0).1 := C.fst.trans C'.fst.symm
    refine Prod.ext e ?_
    rcases Nat.lt_trichotomy (f 0).2 (f' 0).2 with l | l | l
    · exact absurd (by rw [e]; exact C'.fit 0 h') (C.top 0 h _ l (by rw [e]; exact C'.al 0 h'))
    · exact l
    · exact absurd (by rw [← e]; exact C.fit 0 h) (C'.top 0 h' _ l (by rw [← e]; exact C.al 0 h))
  | succ i ih =>
    intro h h'
    have e0 := ih (by omega) (by omega)
    have e : (f (i + 1)).1 = (f' (i + 1)).1 := by rw [C.nxt i h, C'.nxt i h', e0]
    refine Prod.ext e ?_
    rcases Nat.lt_trichotomy (f (i + 1)).2 (f' (i + 1)).2 with l | l | l
    · exact absurd (by rw [e]; exact C'.fit _ h') (C.top _ h _ l (by rw [e]; exact C'.al _ h'))
    · exact l
    · exact absurd (by rw [← e]; exact C.fit _ h) (C'.top _ h' _ l (by rw [← e]; exact C.al _ h))
theorem ChV.len_le {m' : Nat} {f' : Nat → Nat × Nat} (C : ChV A B m f) (C' : ChV A B m' f') : m' ≤ m := by
  refine Nat.le_of_not_lt fun h => ?_
  have p := C.pos
  have e := C.same C' (m - 1) (by omega) (by omega)
  have l := C.lst
  have n := C'.nxt (m - 1) (by omega)
  have ft := C'.fit (m - 1 + 1) (by omega)
  have := Nat.two_pow_pos (f' (m - 1 + 1)).2
  rw [← e] at n
  omega
/-- A range has one chain. -/
theorem ChV.uniq {m' : Nat} {f' : Nat → Nat × Nat} (C : ChV A B m f) (C' : ChV A B m' f') : m = m' ∧ ∀ i, i < m → f i = f' i := by
  have e : m = m' := Nat.le_antisymm (C'.len_le C) (C.len_le C')
  subst e
  exact ⟨rfl, fun i hi => C.same C' i hi hi⟩
/-- How many blocks a range within a block of size 2^q takes at most. -/
def bdV (q A B : Nat) : Nat := (if A % 2 ^ q = 0 then 0 else q) + (if (B + 1) % 2 ^ q = 0 then 0 else q) + 1
theorem bdV_le (q A B : Nat) : bdV q A B ≤ 2 * q + 1 := by unfold bdV; split <;> split <;> omega
/-- The halves of a range that is no block: the start S of the block around it, the middle M. -/
theorem halves {q : Nat} (hAB : A ≤ B) (hq : A / 2 ^ (q + 1) = B / 2 ^ (q + 1)) (hn : A / 2 ^ q ≠ B / 2 ^ q) :
    (B / 2 ^ (q + 1) * 2 ^ (q + 1)) % 2 ^ (q + 1) = 0 ∧ B / 2 ^ (q + 1) * 2 ^ (q + 1) ≤ A ∧ A < B / 2 ^ q * 2 ^ q ∧ B / 2 ^ q * 2 ^ q = B / 2 ^ (q + 1) * 2 ^ (q + 1) + 2 ^ q ∧ B / 2 ^ q * 2 ^ q ≤ B ∧ B + 1 ≤ B / 2 ^ (q + 1) * 2 ^ (q + 1) + 2 ^ (q + 1) := by
  have hp := Nat.two_pow_pos q
  have e : 2 ^ (q + 1) = 2 ^ q * 2 := Nat.pow_succ ..
  have e1 : B / 2 ^ (q + 1) = B / 2 ^ q / 2 := by rw [e, Nat.div_div_eq_div_mul]
  have e2 : A / 2 ^ (q + 1) = A / 2 ^ q / 2 := by rw [e, Nat.div_div_eq_div_mul]
  have le : A / 2 ^ q ≤ B / 2 ^ q := Nat.div_le_div_right hAB
  have d1 := Nat.div_add_mod A (2 ^ q)
  have d2 := Nat.div_add_mod B (2 ^ q)
  have m1 := Nat.mod_lt A hp
  have m2 := Nat.mod_lt B hp
  rw [e1, e2] at hq
  generalize hx : A / 2 ^ q = x at *
  generalize hy : B / 2 ^ q = y at *
  have hxy : y = x + 1 ∧ y = 2 * (y / 2) + 1 := by omega
  obtain ⟨hxy, hy2⟩ := hxy
  have k1 : 2 ^ q * y = 2 ^ q * x + 2 ^ q := by rw [hxy, Nat.mul_succ]
  have k2 : y * 2 ^ q = 2 ^ q * y := Nat.mul_comm ..
  have k3 : y / 2 * 2 ^ (q + 1) = 2 ^ q * x := by
    have : y / 2 * 2 = x := by omega
    rw [e, Nat.mul_comm (2 ^ q) 2, ← Nat.mul_assoc, this, Nat.mul_comm]
  rw [e1, k2, k3]
  refine ⟨?_, by omega, by omega, by omega, by omega, by omega⟩
  rw [← k3]; exact Nat.mul_mod_left ..
end Go.Proofs.YtmoabfpdlbngeaaGreatDoor
end

section
/- What two numbers of 128 bits have in common at their head, and whether they are a block: the numbers behind comparePrefixes. -/
namespace Go.Proofs.YtmoabfpdlbngeaaGreatDoor
set_option linter.unusedVariables false
set_option linter.unusedSimpArgs false
theorem xor_zero {a b : Nat} : a ^^^ b = 0 ↔ a = b := by
  constructor
  · intro h
    apply Nat.eq_of_testBit_eq
    intro i
    have : (a ^^^ b).testBit i = false := by rw [h]; exact Nat.zero_testBit i
    rw [Nat.testBit_xor] at this
    cases ha : a.testBit i <;> cases hb : b.testBit i <;> simp_all
  · rintro rfl; exact Nat.xor_self a
/-- The greatest place in which two numbers of 64 bits differ. -/
theorem bitLen_xor (x y : Nat) (hx : x < 2 ^ 64) (hy : y < 2 ^ 64) : Lib.bitLen (x ^^^ y) ≤ 64 ∧ x / 2 ^ Lib.bitLen (x ^^^ y) = y / 2 ^ Lib.bitLen (x ^^^ y) ∧ (0 < Lib.bitLen (x ^^^ y) → x / 2 ^ (Lib.bitLen (x ^^^ y) - 1) ≠ y / 2 ^ (Lib.bitLen (x ^^^ y) - 1)) ∧ (Lib.bitLen (x ^^^ y) = 0 ↔ x = y) := by
  have hl := bitLen_le (x ^^^ y)
  by_cases e : x = y
  · subst e
    have z : Lib.bitLen (x ^^^ x) = 0 := by rw [Nat.xor_self]; exact Lib.bitLenAux_zero 64
    rw [z]
    exact ⟨by omega, rfl, fun h => by omega, ⟨fun _ => rfl, fun _ => rfl⟩⟩
  · have hne : x ^^^ y ≠ 0 := fun h => e (xor_zero.1 h)
    obtain ⟨b1, b2, b3⟩ := Lib.bitLenAux_bounds 64 (x ^^^ y) (Nat.xor_lt_two_pow hx hy) hne
    have b1' : 1 ≤ Lib.bitLen (x ^^^ y) := b1
    have b2' : 2 ^ (Lib.bitLen (x ^^^ y) - 1) ≤ x ^^^ y := b2
    have b3' : x ^^^ y < 2 ^ Lib.bitLen (x ^^^ y) := b3
    refine ⟨hl, ?_, fun _ h => ?_, ⟨fun h => by omega, fun h => absurd h e⟩⟩
    · apply xor_zero.1
      rw [← Nat.xor_div_two_pow]
      exact Nat.div_eq_of_lt b3'
    · have := xor_zero.2 h
      rw [← Nat.xor_div_two_pow] at this
      have := Nat.div_pos b2' (Nat.two_pow_pos _)
      omega
/-- Halves: equal above a place. -/
theorem hi_div (H L : Nat) (h : L < 18446744073709551616) : (H * 18446744073709551616 + L) / 18446744073709551616 = H := by omega
theorem pow_64p (p : Nat) : 2 ^ (64 + p) = 18446744073709551616 * 2 ^ p := by
  have c64 : (2 : Nat) ^ 64 = 18446744073709551616 := by decide
  have e := Nat.pow_add 2 64 p
  rw [c64] at e
  exact e
theorem eq_hi (H1 L1 H2 L2 p : Nat) (h1 : L1 < 18446744073709551616) (h2 : L2 < 18446744073709551616) : (H1 * 18446744073709551616 + L1) / 2 ^ (64 + p) = (H2 * 18446744073709551616 + L2) / 2 ^ (64 + p) ↔ H1 / 2 ^ p = H2 / 2 ^ p := by
  rw [pow_64p, ← Nat.div_div_eq_div_mul, ← Nat.div_div_eq_div_mul, hi_div _ _ h1, hi_div _ _ h2]
theorem lo_div (H L p : Nat) (hp : p ≤ 64) : (H * 18446744073709551616 + L) / 2 ^ p = H * 2 ^ (64 - p) + L / 2 ^ p := by
  have e : 18446744073709551616 = 2 ^ (64 - p) * 2 ^ p := (pow64 _ _ (by omega)).symm
  rw [e, ← Nat.mul_assoc, Nat.add_comm, Nat.add_mul_div_right _ _ (Nat.two_pow_pos p), Nat.add_comm]
/-- The common head of two numbers of 128 bits: c places. -/
theorem cpl_spec (H1 L1 H2 L2 : Nat) (a1 : H1 < 18446744073709551616) (b1 : L1 < 18446744073709551616) (a2 : H2 < 18446744073709551616) (b2 : L2 < 18446744073709551616) :
    ∃ c : Nat, c ≤ 128 ∧ cpl (H1 : Int) (L1 : Int) (H2 : Int) (L2 : Int) = (c : Int) ∧ (H1 * 18446744073709551616 + L1) / 2 ^ (128 - c) = (H2 * 18446744073709551616 + L2) / 2 ^ (128 - c) ∧ (c < 128 → (H1 * 18446744073709551616 + L1) / 2 ^ (128 - c - 1) ≠ (H2 * 18446744073709551616 + L2) / 2 ^ (128 - c - 1)) ∧ (c = 128 → H1 = H2 ∧ L1 = L2) := by
  obtain ⟨x1, x2, x3, x4⟩ := bitLen_xor H1 H2 (by omega) (by omega)
  obtain ⟨y1, y2, y3, y4⟩ := bitLen_xor L1 L2 (by omega) (by omega)
  unfold cpl lz
  rw [u64_xor_nat _ _ a1 a2, u64_xor_nat _ _ b1 b2, Int.toNat_natCast, Int.toNat_natCast]
  generalize Lib.bitLen (H1 ^^^ H2) = p at *
  generalize Lib.bitLen (L1 ^^^ L2) = r at *
  by_cases hp : p = 0
  · have eH : H1 = H2 := x4.1 hp
    subst eH
    refine ⟨128 - r, by omega, by rw [if_pos (by omega)]; omega, ?_, fun h => ?_, fun h => ⟨rfl, y4.1 (by omega)⟩⟩
    · rw [show 128 - (128 - r) = r by omega, lo_div _ _ _ y1, lo_div _ _ _ y1, y2]
    · rw [show 128 - (128 - r) - 1 = r - 1 by omega, lo_div _ _ _ (by omega), lo_div _ _ _ (by omega)]
      have := y3 (by omega)
      omega
  · refine ⟨64 - p, by omega, by rw [if_neg (by omega)]; omega, ?_, fun h => ?_, fun h => by omega⟩
    · rw [show 128 - (64 - p) = 64 + p by omega]
      exact (eq_hi _ _ _ _ _ b1 b2).2 x2
    · rw [show 128 - (64 - p) - 1 = 64 + (p - 1) by omega]
      exact fun q => x3 (by omega) ((eq_hi _ _ _ _ _ b1 b2).1 q)
theorem mkH_val (n : Nat) (hn : n ≤ 128) : mkH (n : Int) = (((2 ^ 64 - 1) * 2 ^ (64 - n) % 2 ^ 64 : Nat) : Int) := by
  unfold mkH
  by_cases h : n ≤ 64
  · rw [if_pos (by omega), show (64 - (n : Int)).toNat = 64 - n by omega, wrap_u64, Int.natCast_emod, Int.natCast_mul, Int.natCast_pow]
    rfl
  · rw [if_neg (by omega), show 64 - n = 0 by omega]
    rfl
theorem mkL_val (n : Nat) (hn : n ≤ 128) : mkL (n : Int) = if n ≤ 64 then 0 else (((2 ^ 64 - 1) * 2 ^ (128 - n) % 2 ^ 64 : Nat) : Int) := by
  unfold mkL
  by_cases h : n ≤ 64
  · rw [if_pos (by omega), if_pos h]
  · rw [if_neg (by omega), if_neg h, show (128 - (n : Int)).toNat = 128 - n by omega, wrap_u64, Int.natCast_emod, Int.natCast_mul, Int.natCast_pow]
    rfl
theorem and_mkH (H n : Nat) (hH : H < 18446744073709551616) (hn : n ≤ 128) : bits .and .u64 (H : Int) (mkH (n : Int)) = ((topH H n : Nat) : Int) := by
  rw [mkH_val n hn, u64_and_nat _ _ hH (Nat.mod_lt _ (by omega)), and_lo H (64 - n) hH (by omega)]
  rfl
theorem and_mkL (L n : Nat) (hL : L < 18446744073709551616) (hn : n ≤ 128) : bits .and .u64 (L : Int) (mkL (n : Int)) = ((topL L n : Nat) : Int) := by
  rw [mkL_val n hn]
  unfold topL
  by_cases h : n ≤ 64
  · rw [if_pos h, if_pos h]
    have := u64_and_nat L 0 hL (by omega)
    rw [Nat.and_zero] at this
    exact this
  · rw [if_neg h, if_neg h, u64_and_nat _ _ hL (Nat.mod_lt _ (by omega)), and_lo L (128 - n) hL (by omega)]
theorem xor_zeroI (x y : Nat) (hx : x < 18446744073709551616) (hy : y < 18446744073709551616) : bits .xor .u64 (x : Int) (y : Int) = 0 ↔ x = y := by
  rw [u64_xor_nat _ _ hx hy, ← xor_zero]
  omega
theorem val_top (H L n : Nat) (hH : H < 18446744073709551616) (hL : L < 18446744073709551616) (hn : n ≤ 128) : (topH H n = H ∧ topL L n = L) ↔ (H * 18446744073709551616 + L) % 2 ^ (128 - n) = 0 := by
  have t := top_val H L n hL hn
  have d := Nat.div_add_mod (H * 18446744073709551616 + L) (2 ^ (128 - n))
  rw [Nat.mul_comm (2 ^ (128 - n))] at d
  have l1 := topH_lt' H n hH
  have l2 := topL_lt' L n hL
  constructor
  · rintro ⟨e1, e2⟩
    rw [e1, e2] at t
    omega
  · intro z
    rw [z, Nat.add_zero, t] at d
    omega
/-- 'a is all zero behind the common head'. -/
theorem cpA_spec (H L n : Nat) (hH : H < 18446744073709551616) (hL : L < 18446744073709551616) (hn : n ≤ 128) : cpA (H : Int) (L : Int) (n : Int) = true ↔ (H * 18446744073709551616 + L) % 2 ^ (128 - n) = 0 := by
  have l1 := topH_lt' H n hH
  have l2 := topL_lt' L n hL
  unfold cpA
  rw [and_mkH H n hH hn, and_mkL L n hL hn]
  have w1 : W64 (bits .xor .u64 (H : Int) (topH H n : Nat)) := by
    have := xor_in (H : Int) (topH H n : Nat) (by omega) (by omega) (by omega) (by omega)
    exact ⟨this.1, by omega⟩
  have w2 : W64 (bits .xor .u64 (L : Int) (topL L n : Nat)) := by
    have := xor_in (L : Int) (topL L n : Nat) (by omega) (by omega) (by omega) (by omega)
    exact ⟨this.1, by omega⟩
  rw [bor_zero _ _ w1 w2, decide_eq_true_iff, xor_zeroI _ _ hH l1, xor_zeroI _ _ hL l2, ← val_top H L n hH hL hn]
  constructor
  · rintro ⟨a, b⟩; exact ⟨a.symm, b.symm⟩
  · rintro ⟨a, b⟩; exact ⟨a.symm, b.symm⟩
theorem or_full (x M : Nat) (hx : x < 2 ^ 64) (hM : M < 2 ^ 64) : x ||| M = 2 ^ 64 - 1 ↔ (2 ^ 64 - (x + 1)) &&& M = 2 ^ 64 - (x + 1) := by
  have t := Nat.testBit_two_pow_sub_succ hx
  constructor
  · intro h
    apply Nat.eq_of_testBit_eq
    intro i
    have hi : (x ||| M).testBit i = decide (i < 64) := by rw [h]; exact Nat.testBit_two_pow_sub_one 64 i
    rw [Nat.testBit_or] at hi
    rw [Nat.testBit_and, t i]
    cases h1 : decide (i < 64) <;> cases h2 : x.testBit i <;> cases h3 : M.testBit i <;> simp_all
  · intro h
    apply Nat.eq_of_testBit_eq
    intro i
    have hi : ((2 ^ 64 - (x + 1)) &&& M).testBit i = (2 ^ 64 - (x + 1)).testBit i := by rw [h]
    rw [Nat.testBit_and, t i] at hi
    have e1 : x.testBit i = true → i < 64 := fun q => by
      refine Nat.lt_of_not_le fun g => ?_
      rw [Nat.testBit_lt_two_pow (Nat.lt_of_lt_of_le hx (Nat.pow_le_pow_right (by omega) g))] at q
      cases q
    have e2 : M.testBit i = true → i < 64 := fun q => by
      refine Nat.lt_of_not_le fun g => ?_
      rw [Nat.testBit_lt_two_pow (Nat.lt_of_lt_of_le hM (Nat.pow_le_pow_right (by omega) g))] at q
      cases q
    rw [Nat.testBit_or, Nat.testBit_two_pow_sub_one]
    by_cases g : i < 64
    · rw [decide_eq_true g] at hi ⊢
      cases h2 : x.testBit i <;> cases h3 : M.testBit i <;> simp_all
    · rw [decide_eq_false g]
      cases h2 : x.testBit i <;> cases h3 : M.testBit i <;> simp_all
theorem compl_mod (V q : Nat) (hV : V < 2 ^ 128) (hq : q ≤ 128) : (2 ^ 128 - (V + 1)) % 2 ^ q = 0 ↔ (V + 1) % 2 ^ q = 0 := by
  have e : 2 ^ 128 % 2 ^ q = 0 := pow_mod hq
  have s : (2 ^ 128 - (V + 1)) + (V + 1) = 2 ^ 128 := Nat.sub_add_cancel hV
  have hp := Nat.two_pow_pos q
  generalize 2 ^ 128 - (V + 1) = W at *
  generalize V + 1 = X at *
  rw [← s] at e
  have := Nat.add_mod W X (2 ^ q)
  rw [e] at this
  have m1 := Nat.mod_lt W hp
  have m2 := Nat.mod_lt X hp
  generalize W % 2 ^ q = a at *
  generalize X % 2 ^ q = b at *
  generalize 2 ^ q = d at *
  constructor
  · rintro rfl
    rw [Nat.zero_add, Nat.mod_eq_of_lt m2] at this
    exact this.symm
  · rintro rfl
    rw [Nat.add_zero, Nat.mod_eq_of_lt m1] at this
    exact this.symm
/-- 'b is all ones behind the common head'. -/
theorem cpB_spec (H L n : Nat) (hH : H < 18446744073709551616) (hL : L < 18446744073709551616) (hn : n ≤ 128) : cpB (H : Int) (L : Int) (n : Int) = true ↔ (H * 18446744073709551616 + L + 1) % 2 ^ (128 - n) = 0 := by
  have hH' : 2 ^ 64 - (H + 1) < 18446744073709551616 := by omega
  have hL' : 2 ^ 64 - (L + 1) < 18446744073709551616 := by omega
  have key : (H * 18446744073709551616 + L + 1) % 2 ^ (128 - n) = 0 ↔ (topH (2 ^ 64 - (H + 1)) n = 2 ^ 64 - (H + 1) ∧ topL (2 ^ 64 - (L + 1)) n = 2 ^ 64 - (L + 1)) := by
    rw [val_top _ _ n hH' hL' hn, ← compl_mod _ (128 - n) (by omega) (by omega)]
    have e : 2 ^ 128 - (H * 18446744073709551616 + L + 1) = (2 ^ 64 - (H + 1)) * 18446744073709551616 + (2 ^ 64 - (L + 1)) := by omega
    rw [e]
  rw [key]
  unfold cpB
  rw [mkH_val n hn, mkL_val n hn, Bool.and_eq_true, beq_iff_eq, beq_iff_eq]
  have a1 : bits .or .u64 (H : Int) (((2 ^ 64 - 1) * 2 ^ (64 - n) % 2 ^ 64 : Nat) : Int) = 18446744073709551615 ↔ topH (2 ^ 64 - (H + 1)) n = 2 ^ 64 - (H + 1) := by
    rw [u64_or_nat _ _ hH (Nat.mod_lt _ (by omega))]
    have o := or_full H ((2 ^ 64 - 1) * 2 ^ (64 - n) % 2 ^ 64) hH (Nat.mod_lt _ (by omega))
    rw [and_lo _ (64 - n) hH' (by omega)] at o
    unfold topH
    rw [← o]
    generalize H ||| (2 ^ 64 - 1) * 2 ^ (64 - n) % 2 ^ 64 = Y
    omega
  have a2 : bits .or .u64 (L : Int) (if n ≤ 64 then 0 else (((2 ^ 64 - 1) * 2 ^ (128 - n) % 2 ^ 64 : Nat) : Int)) = 18446744073709551615 ↔ topL (2 ^ 64 - (L + 1)) n = 2 ^ 64 - (L + 1) := by
    unfold topL
    by_cases h : n ≤ 64
    · rw [if_pos h, if_pos h]
      have := u64_or_nat L 0 hL (by omega)
      rw [Nat.or_zero] at this
      rw [show ((0 : Int)) = ((0 : Nat) : Int) from rfl, this]
      omega
    · rw [if_neg h, if_neg h, u64_or_nat _ _ hL (Nat.mod_lt _ (by omega))]
      have o := or_full L ((2 ^ 64 - 1) * 2 ^ (128 - n) % 2 ^ 64) hL (Nat.mod_lt _ (by omega))
      rw [and_lo _ (128 - n) hL' (by omega)] at o
      rw [← o]
      generalize L ||| (2 ^ 64 - 1) * 2 ^ (128 - n) % 2 ^ 64 = Y
      omega
  rw [a1, a2]
end Go.Proofs.YtmoabfpdlbngeaaGreatDoor
end
