/-
  Part of the proofs on the laws of pub-addresssets: joined texts (P1).
-/
import Derived.Test.YtmoabfpdlbngeaaGreatDoorVN1
section
/- Lists of ranges in order, plain: one list for each set; one range more; one range less; how long lists grow. -/
namespace Go.Proofs.YtmoabfpdlbngeaaGreatDoor
set_option linter.unusedVariables false
set_option linter.unusedSimpArgs false
theorem CanonR.first_le {m m' : Nat} {h h' : Nat → Nat × Nat} (C : CanonR m h) (C' : CanonR m' h') (e : ∀ k, MemR m h k → MemR m' h' k) (i : Nat) (hi : i < m) (ih : ∀ j, j < i → h j = h' j) : i < m' ∧ (h' i).1 ≤ (h i).1 := by
  obtain ⟨j, hj, q1, q2⟩ := e (h i).1 ⟨i, hi, Nat.le_refl _, (C.ok i hi).le⟩
  have hji : i ≤ j := by
    rcases Nat.lt_or_ge j i with p | p
    · have := C.lt i j p hi
      rw [ih j p] at this; omega
    · exact p
  refine ⟨by omega, ?_⟩
  rcases Nat.eq_or_lt_of_le hji with p | p
  · subst p; exact q1
  · have := C'.lt j i p hj
    have := (C'.ok i (by omega)).le
    omega
theorem CanonR.last_le {m m' : Nat} {h h' : Nat → Nat × Nat} (C : CanonR m h) (e : ∀ k, MemR m' h' k → MemR m h k) (i : Nat) (hi : i < m) (hi' : i < m') (e1 : (h i).1 = (h' i).1) : (h' i).2 ≤ (h i).2 := by
  refine Nat.le_of_not_lt fun q => ?_
  have l := (C.ok i hi).le
  obtain ⟨j, hj, q1, q2⟩ := e ((h i).2 + 1) ⟨i, hi', by omega, by omega⟩
  rcases Nat.lt_trichotomy j i with p | p | p
  · have := C.lt i j p hi; omega
  · subst p; omega
  · have := C.lt j i p hj; omega
theorem CanonR.uniq_le {m m' : Nat} {h h' : Nat → Nat × Nat} (C : CanonR m h) (C' : CanonR m' h') (e : ∀ k, MemR m h k ↔ MemR m' h' k) (i : Nat) : i < m → i < m' ∧ h i = h' i := by
  induction i using Nat.strongRecOn with
  | _ i ih =>
    intro hi
    have A := C.first_le C' (fun k => (e k).1) i hi (fun j q => (ih j q (by omega)).2)
    have B := C'.first_le C (fun k => (e k).2) i A.1 (fun j q => (ih j q (by omega)).2.symm)
    have e1 : (h i).1 = (h' i).1 := Nat.le_antisymm B.2 A.2
    exact ⟨A.1, Prod.ext e1 (Nat.le_antisymm (C'.last_le (fun k => (e k).1) i A.1 hi e1.symm) (C.last_le (fun k => (e k).2) i hi A.1 e1))⟩
/-- A set has one list. -/
theorem CanonR.uniq {m m' : Nat} {h h' : Nat → Nat × Nat} (C : CanonR m h) (C' : CanonR m' h') (e : ∀ k, MemR m h k ↔ MemR m' h' k) : m = m' ∧ ∀ i, i < m → h i = h' i := by
  refine ⟨Nat.le_antisymm (Nat.le_of_not_lt fun q => ?_) (Nat.le_of_not_lt fun q => ?_), fun i hi => (C.uniq_le C' e i hi).2⟩
  · have := (C.uniq_le C' e m' q).1; omega
  · have := (C'.uniq_le C (fun k => (e k).symm) m q).1; omega
theorem CanonR.none {m : Nat} {h : Nat → Nat × Nat} (C : CanonR m h) : m = 0 ↔ ∀ k, ¬ MemR m h k :=
  ⟨fun e k ⟨i, hi, _⟩ => by omega, fun e => Nat.eq_zero_of_not_pos fun q => e (h 0).1 ⟨0, q, Nat.le_refl _, (C.ok 0 q).le⟩⟩
/-- Two lists behind each other. -/
def joinF (a : Nat) (f g : Nat → Nat × Nat) : Nat → Nat × Nat := fun j => if j < a then f j else g (j - a)
theorem MemR_join (a b : Nat) (f g : Nat → Nat × Nat) (k : Nat) : MemR (a + b) (joinF a f g) k ↔ MemR a f k ∨ MemR b g k := by
  unfold joinF
  constructor
  · rintro ⟨i, hi, q⟩
    by_cases p : i < a
    · simp only [if_pos p] at q; exact .inl ⟨i, p, q⟩
    · simp only [if_neg p] at q; exact .inr ⟨i - a, by omega, q⟩
  · rintro (⟨i, hi, q⟩ | ⟨i, hi, q⟩)
    · exact ⟨i, by omega, by simp only [if_pos hi]; exact q⟩
    · exact ⟨a + i, by omega, by simp only [if_neg (show ¬ a + i < a by omega), show a + i - a = i by omega]; exact q⟩
theorem CanonR.join {a b : Nat} {f g : Nat → Nat × Nat} (C : CanonR a f) (D : CanonR b g) (s : 0 < a → 0 < b → (f (a - 1)).2 + 1 < (g 0).1) : CanonR (a + b) (joinF a f g) := by
  unfold joinF
  refine ⟨fun i hi => ?_, fun i hi => ?_⟩
  · by_cases p : i < a
    · simp only [if_pos p]; exact C.ok i p
    · simp only [if_neg p]; exact D.ok (i - a) (by omega)
  · by_cases p : i + 1 < a
    · simp only [if_pos p, if_pos (show i < a by omega)]; exact C.gap i p
    · by_cases p2 : i < a
      · simp only [if_neg p, if_pos p2]
        have := s (by omega) (by omega)
        rw [show i = a - 1 by omega, show a - 1 + 1 - a = 0 by omega]; exact this
      · simp only [if_neg p, if_neg p2]
        have := D.gap (i - a) (by omega)
        rwa [show i - a + 1 = i + 1 - a by omega] at this
theorem CanonR.nil (h : Nat → Nat × Nat) : CanonR 0 h := ⟨fun i hi => by omega, fun i hi => by omega⟩
theorem CanonR.one {r : Nat × Nat} (o : okR r) : CanonR 1 (fun _ => r) := ⟨fun i hi => o, fun i hi => by omega⟩
theorem MemR_one (r : Nat × Nat) (k : Nat) : MemR 1 (fun _ => r) k ↔ (r.1 ≤ k ∧ k ≤ r.2) :=
  ⟨fun ⟨i, hi, q⟩ => q, fun q => ⟨0, by omega, q⟩⟩
theorem MemR_zero (h : Nat → Nat × Nat) (k : Nat) : ¬ MemR 0 h k := fun ⟨i, hi, _⟩ => by omega
/-- Two ranges that meet or touch, as one. -/
def unR (x r : Nat × Nat) : Nat × Nat := (min x.1 r.1, max x.2 r.2)
theorem okR.un {x r : Nat × Nat} (o : okR x) (p : okR r) (h1 : x.1 ≤ r.2 + 1) (h2 : r.1 ≤ x.2 + 1) : okR (unR x r) := by
  have a1 := o.a; have a2 := o.b; have a3 := o.s; have a4 := o.le
  have b1 := p.a; have b2 := p.b; have b3 := p.s; have b4 := p.le
  unfold unR
  refine ⟨?_, ?_, ?_, ?_⟩ <;> unfold sK at * <;> unfold okK at * <;> rw [Bool.eq_iff_iff] at * <;> simp only [decide_eq_true_eq] at * <;> (try simp only) <;> omega
/-- Between two rounds of adding a range r0: ahead (fa), the range so far (r), behind (fb). -/
structure PlsI (n : Nat) (f : Nat → Nat × Nat) (r0 : Nat × Nat) (i a : Nat) (fa : Nat → Nat × Nat) (r : Nat × Nat) (b : Nat) (fb : Nat → Nat × Nat) : Prop where
  ca : CanonR a fa
  cb : CanonR b fb
  okr : okR r
  sa : 0 < a → (fa (a - 1)).2 + 1 < r.1
  sb : 0 < b → r.2 + 1 < (fb 0).1
  na : i < n → 0 < a → (fa (a - 1)).2 + 1 < (f i).1
  nb : i < n → 0 < b → (fb (b - 1)).2 + 1 < (f i).1
  nr : i < n → 0 < b → r.2 + 1 < (f i).1
  mem : ∀ k, (MemR a fa k ∨ (r.1 ≤ k ∧ k ≤ r.2) ∨ MemR b fb k) ↔ (MemR i f k ∨ (r0.1 ≤ k ∧ k ≤ r0.2))
  le : a + b ≤ i
variable {n : Nat} {f : Nat → Nat × Nat} {r0 r : Nat × Nat} {i a b : Nat} {fa fb : Nat → Nat × Nat}
theorem PlsI.start (o : okR r0) : PlsI n f r0 0 0 fa r0 0 fb :=
  ⟨.nil _, .nil _, o, fun q => by omega, fun q => by omega, fun _ q => by omega, fun _ q => by omega, fun _ q => by omega, fun k => by
    have := MemR_zero fa k; have := MemR_zero fb k; have := MemR_zero f k
    simp_all, Nat.le_refl _⟩
theorem PlsI.merge (C : CanonR n f) (I : PlsI n f r0 i a fa r b fb) (hi : i < n) (h1 : (f i).1 ≤ r.2 + 1) (h2 : r.1 ≤ (f i).2 + 1) : PlsI n f r0 (i + 1) a fa (unR (f i) r) b fb := by
  obtain ⟨ca, cb, okr, sa, sb, na, nb, nr, mem, le⟩ := I
  have hl := okr.le
  have xl := (C.ok i hi).le
  have b0 : ¬ 0 < b := fun q => by have := nr hi q; omega
  refine ⟨ca, cb, (C.ok i hi).un okr h1 h2, fun q => ?_, fun q => absurd q b0, fun p q => ?_, fun p q => absurd q b0, fun p q => absurd q b0, fun k => ?_, by omega⟩
  · have := sa q; have := na hi q; unfold unR; simp only; omega
  · have := na hi q; have := C.gap i p; omega
  · rw [MemR_succ]
    have := mem k
    unfold unR
    by_cases p1 : MemR a fa k <;> by_cases p2 : MemR b fb k <;> by_cases p3 : MemR i f k <;> simp only [p1, p2, p3, true_or, or_true, or_false, false_or, true_iff, iff_true, false_iff, iff_false, not_true, not_or] at this ⊢ <;> omega
theorem PlsI.ahead (C : CanonR n f) (I : PlsI n f r0 i a fa r b fb) (hi : i < n) (h1 : (f i).2 + 1 < r.1) : PlsI n f r0 (i + 1) (a + 1) (snoc a fa (f i)) r b fb := by
  obtain ⟨ca, cb, okr, sa, sb, na, nb, nr, mem, le⟩ := I
  have hl := okr.le
  have xl := (C.ok i hi).le
  have b0 : ¬ 0 < b := fun q => by have := nr hi q; omega
  refine ⟨ca.snoc (C.ok i hi) (na hi), cb, okr, fun q => by rw [snoc_last]; exact h1, sb, fun p q => by rw [snoc_last]; exact C.gap i p, fun p q => absurd q b0, fun p q => absurd q b0, fun k => ?_, by omega⟩
  rw [MemR_succ i f, MemR_snoc]
  have := mem k
  by_cases p1 : MemR a fa k <;> by_cases p2 : MemR b fb k <;> by_cases p3 : MemR i f k <;> simp only [p1, p2, p3, true_or, or_true, or_false, false_or, true_iff, iff_true, false_iff, iff_false, not_true, not_or] at this ⊢ <;> omega
theorem PlsI.behind (C : CanonR n f) (I : PlsI n f r0 i a fa r b fb) (hi : i < n) (h1 : r.2 + 1 < (f i).1) : PlsI n f r0 (i + 1) a fa r (b + 1) (snoc b fb (f i)) := by
  obtain ⟨ca, cb, okr, sa, sb, na, nb, nr, mem, le⟩ := I
  have hl := okr.le
  have xl := (C.ok i hi).le
  refine ⟨ca, cb.snoc (C.ok i hi) (nb hi), okr, sa, fun q => ?_, fun p q => ?_, fun p q => by rw [snoc_last]; exact C.gap i p, fun p q => ?_, fun k => ?_, by omega⟩
  · unfold snoc
    by_cases e : 0 < b
    · rw [if_pos e]; exact sb e
    · rw [if_neg e]; exact h1
  · have := na hi q; have := C.gap i p; omega
  · have := C.gap i p; omega
  · rw [MemR_succ i f, MemR_snoc]
    have := mem k
    by_cases p1 : MemR a fa k <;> by_cases p2 : MemR b fb k <;> by_cases p3 : MemR i f k <;> simp only [p1, p2, p3, true_or, or_true, or_false, false_or, true_iff, iff_true, false_iff, iff_false, not_true, not_or] at this ⊢ <;> omega
/-- At the end: ahead, the range, behind. -/
theorem PlsI.done (I : PlsI n f r0 n a fa r b fb) : CanonR (a + 1 + b) (joinF (a + 1) (snoc a fa r) fb) ∧ (∀ k, MemR (a + 1 + b) (joinF (a + 1) (snoc a fa r) fb) k ↔ MemR n f k ∨ (r0.1 ≤ k ∧ k ≤ r0.2)) ∧ a + 1 + b ≤ n + 1 := by
  obtain ⟨ca, cb, okr, sa, sb, na, nb, nr, mem, le⟩ := I
  refine ⟨(ca.snoc okr sa).join cb (fun _ q => by rw [snoc_last]; exact sb q), fun k => ?_, by omega⟩
  rw [MemR_join, MemR_snoc, ← mem k, or_assoc]
/-- Between two rounds of taking a range r away. -/
structure MinI (n : Nat) (f : Nat → Nat × Nat) (r : Nat × Nat) (i m : Nat) (h : Nat → Nat × Nat) : Prop where
  ch : CanonR m h
  sep : i < n → 0 < m → (h (m - 1)).2 + 1 < (f i).1
  mem : ∀ k, MemR m h k ↔ MemR i f k ∧ ¬ (r.1 ≤ k ∧ k ≤ r.2)
  le : m ≤ i ∨ (m ≤ i + 1 ∧ (i < n → r.2 < (f i).1))
variable {m : Nat} {h : Nat → Nat × Nat}
theorem MinI.start : MinI n f r 0 0 h :=
  ⟨.nil _, fun _ q => by omega, fun k => ⟨fun q => absurd q (MemR_zero _ _), fun q => absurd q.1 (MemR_zero _ _)⟩, .inl (Nat.le_refl _)⟩
theorem MinI.apart (C : CanonR n f) (I : MinI n f r i m h) (hi : i < n) (h1 : (f i).2 < r.1 ∨ r.2 < (f i).1) : MinI n f r (i + 1) (m + 1) (snoc m h (f i)) := by
  obtain ⟨ch, sep, mem, le⟩ := I
  have xl := (C.ok i hi).le
  refine ⟨ch.snoc (C.ok i hi) (sep hi), fun p q => by rw [snoc_last]; exact C.gap i p, fun k => ?_, ?_⟩
  · rw [MemR_succ i f, MemR_snoc, mem k]
    by_cases p3 : MemR i f k <;> simp only [p3, true_or, or_true, or_false, false_or, true_and, false_and, and_true, iff_true, true_iff, iff_false, false_iff, not_true, not_false_eq_true, iff_self] <;> omega
  · rcases le with q | ⟨q, p⟩
    · exact .inl (by omega)
    · exact .inr ⟨by omega, fun s => by have := p hi; have := C.gap i s; omega⟩
theorem MinI.gone (C : CanonR n f) (I : MinI n f r i m h) (hi : i < n) (h1 : r.1 ≤ (f i).1) (h2 : (f i).2 ≤ r.2) : MinI n f r (i + 1) m h := by
  obtain ⟨ch, sep, mem, le⟩ := I
  have xl := (C.ok i hi).le
  refine ⟨ch, fun p q => by have := sep hi q; have := C.gap i p; omega, fun k => ?_, ?_⟩
  · rw [MemR_succ i f, mem k]
    by_cases p3 : MemR i f k <;> simp only [p3, true_or, or_true, or_false, false_or, true_and, false_and, and_true, iff_true, true_iff, iff_false, false_iff, not_true, not_false_eq_true, iff_self] <;> omega
  · rcases le with q | ⟨q, p⟩
    · exact .inl (by omega)
    · exact .inl (by have := p hi; omega)
theorem MinI.left (C : CanonR n f) (I : MinI n f r i m h) (hi : i < n) (rl : r.1 ≤ r.2) (h0 : (f i).1 < r.1) (h1 : r.1 ≤ (f i).2) (h2 : (f i).2 ≤ r.2) : MinI n f r (i + 1) (m + 1) (snoc m h ((f i).1, r.1 - 1)) := by
  obtain ⟨ch, sep, mem, le⟩ := I
  have xl := (C.ok i hi).le
  refine ⟨ch.snoc (okR_of (C.ok i hi) (Nat.le_refl _) (by omega) (by omega)) (sep hi), fun p q => by rw [snoc_last]; have := C.gap i p; show r.1 - 1 + 1 < _; omega, fun k => ?_, ?_⟩
  · rw [MemR_succ i f, MemR_snoc, mem k]
    by_cases p3 : MemR i f k <;> simp only [p3, true_or, or_true, or_false, false_or, true_and, false_and, and_true, iff_true, true_iff, iff_false, false_iff, not_true, not_false_eq_true, iff_self] <;> omega
  · rcases le with q | ⟨q, p⟩
    · exact .inl (by omega)
    · have := p hi; omega
theorem MinI.right (C : CanonR n f) (I : MinI n f r i m h) (hi : i < n) (rl : r.1 ≤ r.2) (h0 : r.1 ≤ (f i).1) (h1 : (f i).1 ≤ r.2) (h2 : r.2 < (f i).2) : MinI n f r (i + 1) (m + 1) (snoc m h (r.2 + 1, (f i).2)) := by
  obtain ⟨ch, sep, mem, le⟩ := I
  have xl := (C.ok i hi).le
  refine ⟨ch.snoc (okR_of (C.ok i hi) (by omega) (by omega) (Nat.le_refl _)) (fun q => by have := sep hi q; show _ < r.2 + 1; omega), fun p q => by rw [snoc_last]; have := C.gap i p; exact this, fun k => ?_, ?_⟩
  · rw [MemR_succ i f, MemR_snoc, mem k]
    by_cases p3 : MemR i f k <;> simp only [p3, true_or, or_true, or_false, false_or, true_and, false_and, and_true, iff_true, true_iff, iff_false, false_iff, not_true, not_false_eq_true, iff_self] <;> omega
  · rcases le with q | ⟨q, p⟩
    · exact .inl (by omega)
    · have := p hi; omega
theorem MinI.both (C : CanonR n f) (I : MinI n f r i m h) (hi : i < n) (rl : r.1 ≤ r.2) (h0 : (f i).1 < r.1) (h2 : r.2 < (f i).2) : MinI n f r (i + 1) (m + 1 + 1) (snoc (m + 1) (snoc m h ((f i).1, r.1 - 1)) (r.2 + 1, (f i).2)) := by
  obtain ⟨ch, sep, mem, le⟩ := I
  have xl := (C.ok i hi).le
  have A := ch.snoc (r := ((f i).1, r.1 - 1)) (okR_of (C.ok i hi) (Nat.le_refl _) (by omega) (by omega)) (sep hi)
  refine ⟨A.snoc (r := (r.2 + 1, (f i).2)) (okR_of (C.ok i hi) (by omega) (by omega) (Nat.le_refl _)) (fun q => by rw [snoc_last]; show r.1 - 1 + 1 < r.2 + 1; omega), fun p q => by rw [snoc_last]; have := C.gap i p; exact this, fun k => ?_, ?_⟩
  · rw [MemR_succ i f, MemR_snoc, MemR_snoc, mem k]
    by_cases p3 : MemR i f k <;> simp only [p3, true_or, or_true, or_false, false_or, true_and, false_and, and_true, iff_true, true_iff, iff_false, false_iff, not_true, not_false_eq_true, iff_self] <;> omega
  · rcases le with q | ⟨q, p⟩
    · exact .inr ⟨by omega, fun s => by have := C.gap i s; omega⟩
    · have := p hi; omega
theorem MinI.done (I : MinI n f r n m h) : CanonR m h ∧ (∀ k, MemR m h k ↔ MemR n f k ∧ ¬ (r.1 ≤ k ∧ k ≤ r.2)) ∧ m ≤ n + 1 :=
  ⟨I.ch, I.mem, by rcases I.le with q | ⟨q, _⟩ <;> omega⟩
/-- How long lists get behind i steps: N what is, K what is kept. -/
def Gro (i N K : Nat) : Prop := ∃ q d, 1 ≤ q ∧ N + 2 ≤ q * d ∧ K + 2 ≤ d ∧ d ^ 3 * 3 ^ q ≤ 24 * 3 ^ i
theorem cube_le : ∀ q, 1 ≤ q → q ^ 3 ≤ 3 ^ q
  | 0, h => by omega
  | 1, _ => by decide
  | 2, _ => by decide
  | 3, _ => by decide
  | q + 4, _ => by
    have ih := cube_le (q + 3) (by omega)
    have e1 : 3 ^ (q + 4) = 3 ^ (q + 3) * 3 := Nat.pow_succ ..
    rw [e1]
    refine Nat.le_trans ?_ (Nat.mul_le_mul_right 3 ih)
    generalize q = t
    have a : (t + 4) ^ 3 = t * t * t + 12 * (t * t) + 48 * t + 64 := by
      have e1 : t * 4 * t = 4 * (t * t) := by rw [Nat.mul_comm t 4, Nat.mul_assoc]
      have e2 : 4 * t * t = 4 * (t * t) := Nat.mul_assoc ..
      simp only [Nat.pow_succ, Nat.pow_zero, Nat.one_mul, Nat.add_mul, Nat.mul_add, e1, e2]
      omega
    have b : (t + 3) ^ 3 = t * t * t + 9 * (t * t) + 27 * t + 27 := by
      have e1 : t * 3 * t = 3 * (t * t) := by rw [Nat.mul_comm t 3, Nat.mul_assoc]
      have e2 : 3 * t * t = 3 * (t * t) := Nat.mul_assoc ..
      simp only [Nat.pow_succ, Nat.pow_zero, Nat.one_mul, Nat.add_mul, Nat.mul_add, e1, e2]
      omega
    rw [a, b]
    omega
theorem Gro.start : Gro 0 0 0 := ⟨1, 2, by decide, by decide, by decide, by decide⟩
theorem Gro.keep {i N K N' K' : Nat} (G : Gro i N K) (h1 : N' ≤ N) (h2 : K' ≤ N) : Gro (i + 1) N' K' := by
  obtain ⟨q, d, q1, hN, hK, hp⟩ := G
  refine ⟨1, q * d, Nat.le_refl _, by omega, by omega, ?_⟩
  rw [Nat.mul_pow, Nat.pow_succ 3 i, Nat.pow_one, ← Nat.mul_assoc]
  refine Nat.mul_le_mul_right 3 (Nat.le_trans ?_ hp)
  rw [Nat.mul_comm]
  exact Nat.mul_le_mul_left _ (cube_le q q1)
theorem Gro.add {i N K N' K' : Nat} (G : Gro i N K) (h1 : N' ≤ N + K + 2) (h2 : K' ≤ K) : Gro (i + 1) N' K' := by
  obtain ⟨q, d, q1, hN, hK, hp⟩ := G
  refine ⟨q + 1, d, by omega, by rw [Nat.add_mul, Nat.one_mul]; omega, by omega, ?_⟩
  rw [Nat.pow_succ 3 q, Nat.pow_succ 3 i, ← Nat.mul_assoc, ← Nat.mul_assoc]
  exact Nat.mul_le_mul_right 3 hp
theorem Gro.bound {i N K : Nat} (G : Gro i N K) (hi : i ≤ 40) : N ≤ 7000000 ∧ K ≤ 7000000 := by
  obtain ⟨q, d, q1, hN, hK, hp⟩ := G
  have h1 : (q * d) ^ 3 ≤ 24 * 3 ^ 40 := by
    rw [Nat.mul_pow, Nat.mul_comm]
    exact Nat.le_trans (Nat.mul_le_mul_left _ (cube_le q q1)) (Nat.le_trans hp (Nat.mul_le_mul_left _ (Nat.pow_le_pow_right (by omega) hi)))
  have h2 : q * d < 7000000 := Nat.lt_of_not_le fun h => by
    have := Nat.pow_le_pow_left h 3
    have h3 : (7000000 : Nat) ^ 3 ≤ 24 * 3 ^ 40 := Nat.le_trans this h1
    exact absurd h3 (by decide)
  have h3 : d ≤ q * d := Nat.le_mul_of_pos_left d q1
  omega
theorem Gro.step {i N K : Nat} (G : Gro i N K) (hi : i < 40) : N + K + 2 ≤ 7000000 := ((G.add (N' := N + K + 2) (K' := K) (Nat.le_refl _) (Nat.le_refl _)).bound hi).1
end Go.Proofs.YtmoabfpdlbngeaaGreatDoor
end
