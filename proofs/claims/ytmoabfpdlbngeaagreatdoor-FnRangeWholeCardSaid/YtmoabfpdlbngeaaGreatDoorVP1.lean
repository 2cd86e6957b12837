/-
  Part of the proofs on the laws of pub-addresssets: joined texts (P1, B5, B6).
-/
import Derived.Test.YtmoabfpdlbngeaaGreatDoorVN1
import Derived.Test.YtmoabfpdlbngeaaGreatDoorVPf
section
/- Lists of ranges in order, plain: one list for each set; one range more; one range less; how long lists grow. -/
namespace Go.Proofs.YtmoabfpdlbngeaaGreatDoor
set_option linter.unusedVariables false
set_option linter.unusedSimpArgs false
theorem CanonR.first_le {m m' : Nat} {h h' : Nat → Nat × Nat} (C : CanonR m h) (C' : CanonR m' h') (e : ∀ k, MemR m h k → MemR m' h' k) (i : Nat) (hi : i < m) (ih : ∀ j, j < i → h j = h' j) : i < m' ∧ (h' i).1 ≤ (h i).1 := by
  obtain ⟨j, hj, q1, q2⟩ := e (h i).1 ⟨i, hi, Nat.le_refl _, (C.ok i hi).le⟩
  have hji : i ≤ j := by
    rcases Nat.lt_or_ge j i with p | p
    · have := C.lt i j p hi
      rw [ih j p] at this; omega
    · exact p
  refine ⟨by omega, ?_⟩
  rcases Nat.eq_or_lt_of_le hji with p | p
  · subst p; exact q1
  · have := C'.lt j i p hj
    have := (C'.ok i (by omega)).le
    omega
theorem CanonR.last_le {m m' : Nat} {h h' : Nat → Nat × Nat} (C : CanonR m h) (e : ∀ k, MemR m' h' k → MemR m h k) (i : Nat) (hi : i < m) (hi' : i < m') (e1 : (h i).1 = (h' i).1) : (h' i).2 ≤ (h i).2 := by
  refine Nat.le_of_not_lt fun q => ?_
  have l := (C.ok i hi).le
  obtain ⟨j, hj, q1, q2⟩ := e ((h i).2 + 1) ⟨i, hi', by omega, by omega⟩
  rcases Nat.lt_trichotomy j i with p | p | p
  · have := C.lt i j p hi; omega
  · subst p; omega
  · have := C.lt j i p hj; omega
theorem CanonR.uniq_le {m m' : Nat} {h h' : Nat → Nat × Nat} (C : CanonR m h) (C' : CanonR m' h') (e : ∀ k, MemR m h k ↔ MemR m' h' k) (i : Nat) : i < m → i < m' ∧ h i = h' i := by
  induction i using Nat.strongRecOn with
  | _ i ih =>
    intro hi
    have A := C.first_le C' (fun k => (e k).1) i hi (fun j q => (ih j q (by omega)).2)
    have B := C'.first_le C (fun k => (e k).2) i A.1 (fun j q => (ih j q (by omega)).2.symm)
    have e1 : (h i).1 = (h' i).1 := Nat.le_antisymm B.2 A.2
    exact ⟨A.1, Prod.ext e1 (Nat.le_antisymm (C'.last_le (fun k => (e k).1) i A.1 hi e1.symm) (C.last_le (fun k => (e k).2) i hi A.1 e1))⟩
/-- A set has one list. -/
theorem CanonR.uniq {m m' : Nat} {h h' : Nat → Nat × Nat} (C : CanonR m h) (C' : CanonR m' h') (e : ∀ k, MemR m h k ↔ MemR m' h' k) : m = m' ∧ ∀ i, i < m → h i = h' i := by
  refine ⟨Nat.le_antisymm (Nat.le_of_not_lt fun q => ?_) (Nat.le_of_not_lt fun q => ?_), fun i hi => (C.uniq_le C' e i hi).2⟩
  · have := (C.uniq_le C' e m' q).1; omega
  · have := (C'.uniq_le C (fun k => (e k).symm) m q).1; omega
theorem CanonR.none {m : Nat} {h : Nat → Nat × Nat} (C : CanonR m h) : m = 0 ↔ ∀ k, ¬ MemR m h k :=
  ⟨fun e k ⟨i, hi, _⟩ => by omega, fun e => Nat.eq_zero_of_not_pos fun q => e (h 0).1 ⟨0, q, Nat.le_refl _, (C.ok 0 q).le⟩⟩
/-- Two lists behind each other. -/
def joinF (a : Nat) (f g : Nat → Nat × Nat) : Nat → Nat × Nat := fun j => if j < a then f j else g (j - a)
theorem MemR_join (a b : Nat) (f g : Nat → Nat × Nat) (k : Nat) : MemR (a + b) (joinF a f g) k ↔ MemR a f k ∨ MemR b g k := by
  unfold joinF
  constructor
  · rintro ⟨i, hi, q⟩
    by_cases p : i < a
    · simp only [if_pos p] at q; exact .inl ⟨i, p, q⟩
    · simp only [if_neg p] at q; exact .inr ⟨i - a, by omega, q⟩
  · rintro (⟨i, hi, q⟩ | ⟨i, hi, q⟩)
    · exact ⟨i, by omega, by simp only [if_pos hi]; exact q⟩
    · exact ⟨a + i, by omega, by simp only [if_neg (show ¬ a + i < a by omega), show a + i - a = i by omega]; exact q⟩
theorem CanonR.join {a b : Nat} {f g : Nat → Nat × Nat} (C : CanonR a f) (D : CanonR b g) (s : 0 < a → 0 < b → (f (a - 1)).2 + 1 < (g 0).1) : CanonR (a + b) (joinF a f g) := by
  unfold joinF
  refine ⟨fun i hi => ?_, fun i hi => ?_⟩
  · by_cases p : i < a
    · simp only [if_pos p]; exact C.ok i p
    · simp only [if_neg p]; exact D.ok (i - a) (by omega)
  · by_cases p : i + 1 < a
    · simp only [if_pos p, if_pos (show i < a by omega)]; exact C.gap i p
    · by_cases p2 : i < a
      · simp only [if_neg p, if_pos p2]
        have := s (by omega) (by omega)
        rw [show i = a - 1 by omega, show a - 1 + 1 - a = 0 by omega]; exact this
      · simp only [if_neg p, if_neg p2]
        have := D.gap (i - a) (by omega)
        rwa [show i - a + 1 = i + 1 - a by omega] at this
theorem CanonR.nil (h : Nat → Nat × Nat) : CanonR 0 h := ⟨fun i hi => by omega, fun i hi => by omega⟩
theorem CanonR.one {r : Nat × Nat} (o : okR r) : CanonR 1 (fun _ => r) := ⟨fun i hi => o, fun i hi => by omega⟩
theorem MemR_one (r : Nat × Nat) (k : Nat) : MemR 1 (fun _ => r) k ↔ (r.1 ≤ k ∧ k ≤ r.2) :=
  ⟨fun ⟨i, hi, q⟩ => q, fun q => ⟨0, by omega, q⟩⟩
theorem MemR_zero (h : Nat → Nat × Nat) (k : Nat) : ¬ MemR 0 h k := fun ⟨i, hi, _⟩ => by omega
/-- Two ranges that meet or touch, as one. -/
def unR (x r : Nat × Nat) : Nat × Nat := (min x.1 r.1, max x.2 r.2)
theorem okR.un {x r : Nat × Nat} (o : okR x) (p : okR r) (h1 : x.1 ≤ r.2 + 1) (h2 : r.1 ≤ x.2 + 1) : okR (unR x r) := by
  have a1 := o.a; have a2 := o.b; have a3 := o.s; have a4 := o.le
  have b1 := p.a; have b2 := p.b; have b3 := p.s; have b4 := p.le
  unfold unR
  refine ⟨?_, ?_, ?_, ?_⟩ <;> unfold sK at * <;> unfold okK at * <;> rw [Bool.eq_iff_iff] at * <;> simp only [decide_eq_true_eq] at * <;> (try simp only) <;> omega
/-- Between two rounds of adding a range r0: ahead (fa), the range so far (r), behind (fb). -/
structure PlsI (n : Nat) (f : Nat → Nat × Nat) (r0 : Nat × Nat) (i a : Nat) (fa : Nat → Nat × Nat) (r : Nat × Nat) (b : Nat) (fb : Nat → Nat × Nat) : Prop where
  ca : CanonR a fa
  cb : CanonR b fb
  okr : okR r
  sa : 0 < a → (fa (a - 1)).2 + 1 < r.1
  sb : 0 < b → r.2 + 1 < (fb 0).1
  na : i < n → 0 < a → (fa (a - 1)).2 + 1 < (f i).1
  nb : i < n → 0 < b → (fb (b - 1)).2 + 1 < (f i).1
  nr : i < n → 0 < b → r.2 + 1 < (f i).1
  mem : ∀ k, (MemR a fa k ∨ (r.1 ≤ k ∧ k ≤ r.2) ∨ MemR b fb k) ↔ (MemR i f k ∨ (r0.1 ≤ k ∧ k ≤ r0.2))
  le : a + b ≤ i
variable {n : Nat} {f : Nat → Nat × Nat} {r0 r : Nat × Nat} {i a b : Nat} {fa fb : Nat → Nat × Nat}
theorem PlsI.start (o : okR r0) : PlsI n f r0 0 0 fa r0 0 fb :=
  ⟨.nil _, .nil _, o, fun q => by omega, fun q => by omega, fun _ q => by omega, fun _ q => by omega, fun _ q => by omega, fun k => by
    have := MemR_zero fa k; have := MemR_zero fb k; have := MemR_zero f k
    simp_all, Nat.le_refl _⟩
theorem PlsI.merge (C : CanonR n f) (I : PlsI n f r0 i a fa r b fb) (hi : i < n) (h1 : (f i).1 ≤ r.2 + 1) (h2 : r.1 ≤ (f i).2 + 1) : PlsI n f r0 (i + 1) a fa (unR (f i) r) b fb := by
  obtain ⟨ca, cb, okr, sa, sb, na, nb, nr, mem, le⟩ := I
  have hl := okr.le
  have xl := (C.ok i hi).le
  have b0 : ¬ 0 < b := fun q => by have := nr hi q; omega
  refine ⟨ca, cb, (C.ok i hi).un okr h1 h2, fun q => ?_, fun q => absurd q b0, fun p q => ?_, fun p q => absurd q b0, fun p q => absurd q b0, fun k => ?_, by omega⟩
  · have := sa q; have := na hi q; unfold unR; simp only; omega
  · have := na hi q; have := C.gap i p; omega
  · rw [MemR_succ]
    have := mem k
    unfold unR
    by_cases p1 : MemR a fa k <;> by_cases p2 : MemR b fb k <;> by_cases p3 : MemR i f k <;> simp only [p1, p2, p3, true_or, or_true, or_false, false_or, true_iff, iff_true, false_iff, iff_false, not_true, not_or] at this ⊢ <;> omega
theorem PlsI.ahead (C : CanonR n f) (I : PlsI n f r0 i a fa r b fb) (hi : i < n) (h1 : (f i).2 + 1 < r.1) : PlsI n f r0 (i + 1) (a + 1) (snoc a fa (f i)) r b fb := by
  obtain ⟨ca, cb, okr, sa, sb, na, nb, nr, mem, le⟩ := I
  have hl := okr.le
  have xl := (C.ok i hi).le
  have b0 : ¬ 0 < b := fun q => by have := nr hi q; omega
  refine ⟨ca.snoc (C.ok i hi) (na hi), cb, okr, fun q => by rw [snoc_last]; exact h1, sb, fun p q => by rw [snoc_last]; exact C.gap i p, fun p q => absurd q b0, fun p q => absurd q b0, fun k => ?_, by omega⟩
  rw [MemR_succ i f, MemR_snoc]
  have := mem k
  by_cases p1 : MemR a fa k <;> by_cases p2 : MemR b fb k <;> by_cases p3 : MemR i f k <;> simp only [p1, p2, p3, true_or, or_true, or_false, false_or, true_iff, iff_true, false_iff, iff_false, not_true, not_or] at this ⊢ <;> omega
theorem PlsI.behind (C : CanonR n f) (I : PlsI n f r0 i a fa r b fb) (hi : i < n) (h1 : r.2 + 1 < (f i).1) : PlsI n f r0 (i + 1) a fa r (b + 1) (snoc b fb (f i)) := by
  obtain ⟨ca, cb, okr, sa, sb, na, nb, nr, mem, le⟩ := I
  have hl := okr.le
  have xl := (C.ok i hi).le
  refine ⟨ca, cb.snoc (C.ok i hi) (nb hi), okr, sa, fun q => ?_, fun p q => ?_, fun p q => by rw [snoc_last]; exact C.gap i p, fun p q => ?_, fun k => ?_, by omega⟩
  · unfold snoc
    by_cases e : 0 < b
    · rw [if_pos e]; exact sb e
    · rw [if_neg e]; exact h1
  · have := na hi q; have := C.gap i p; omega
  · have := C.gap i p; omega
  · rw [MemR_succ i f, MemR_snoc]
    have := mem k
    by_cases p1 : MemR a fa k <;> by_cases p2 : MemR b fb k <;> by_cases p3 : MemR i f k <;> simp only [p1, p2, p3, true_or, or_true, or_false, false_or, true_iff, iff_true, false_iff, iff_false, not_true, not_or] at this ⊢ <;> omega
/-- At the end: ahead, the range, behind. -/
theorem PlsI.done (I : PlsI n f r0 n a fa r b fb) : CanonR (a + 1 + b) (joinF (a + 1) (snoc a fa r) fb) ∧ (∀ k, MemR (a + 1 + b) (joinF (a + 1) (snoc a fa r) fb) k ↔ MemR n f k ∨ (r0.1 ≤ k ∧ k ≤ r0.2)) ∧ a + 1 + b ≤ n + 1 := by
  obtain ⟨ca, cb, okr, sa, sb, na, nb, nr, mem, le⟩ := I
  refine ⟨(ca.snoc okr sa).join cb (fun _ q => by rw [snoc_last]; exact sb q), fun k => ?_, by omega⟩
  rw [MemR_join, MemR_snoc, ← mem k, or_assoc]
/-- Between two rounds of taking a range r away. -/
structure MinI (n : Nat) (f : Nat → Nat × Nat) (r : Nat × Nat) (i m : Nat) (h : Nat → Nat × Nat) : Prop where
  ch : CanonR m h
  sep : i < n → 0 < m → (h (m - 1)).2 + 1 < (f i).1
  mem : ∀ k, MemR m h k ↔ MemR i f k ∧ ¬ (r.1 ≤ k ∧ k ≤ r.2)
  le : m ≤ i ∨ (m ≤ i + 1 ∧ (i < n → r.2 < (f i).1))
variable {m : Nat} {h : Nat → Nat × Nat}
theorem MinI.start : MinI n f r 0 0 h :=
  ⟨.nil _, fun _ q => by omega, fun k => ⟨fun q => absurd q (MemR_zero _ _), fun q => absurd q.1 (MemR_zero _ _)⟩, .inl (Nat.le_refl _)⟩
theorem MinI.apart (C : CanonR n f) (I : MinI n f r i m h) (hi : i < n) (h1 : (f i).2 < r.1 ∨ r.2 < (f i).1) : MinI n f r (i + 1) (m + 1) (snoc m h (f i)) := by
  obtain ⟨ch, sep, mem, le⟩ := I
  have xl := (C.ok i hi).le
  refine ⟨ch.snoc (C.ok i hi) (sep hi), fun p q => by rw [snoc_last]; exact C.gap i p, fun k => ?_, ?_⟩
  · rw [MemR_succ i f, MemR_snoc, mem k]
    by_cases p3 : MemR i f k <;> simp only [p3, true_or, or_true, or_false, false_or, true_and, false_and, and_true, iff_true, true_iff, iff_false, false_iff, not_true, not_false_eq_true, iff_self] <;> omega
  · rcases le with q | ⟨q, p⟩
    · exact .inl (by omega)
    · exact .inr ⟨by omega, fun s => by have := p hi; have := C.gap i s; omega⟩
theorem MinI.gone (C : CanonR n f) (I : MinI n f r i m h) (hi : i < n) (h1 : r.1 ≤ (f i).1) (h2 : (f i).2 ≤ r.2) : MinI n f r (i + 1) m h := by
  obtain ⟨ch, sep, mem, le⟩ := I
  have xl := (C.ok i hi).le
  refine ⟨ch, fun p q => by have := sep hi q; have := C.gap i p; omega, fun k => ?_, ?_⟩
  · rw [MemR_succ i f, mem k]
    by_cases p3 : MemR i f k <;> simp only [p3, true_or, or_true, or_false, false_or, true_and, false_and, and_true, iff_true, true_iff, iff_false, false_iff, not_true, not_false_eq_true, iff_self] <;> omega
  · rcases le with q | ⟨q, p⟩
    · exact .inl (by omega)
    · exact .inl (by have := p hi; omega)
theorem MinI.left (C : CanonR n f) (I : MinI n f r i m h) (hi : i < n) (rl : r.1 ≤ r.2) (h0 : (f i).1 < r.1) (h1 : r.1 ≤ (f i).2) (h2 : (f i).2 ≤ r.2) : MinI n f r (i + 1) (m + 1) (snoc m h ((f i).1, r.1 - 1)) := by
  obtain ⟨ch, sep, mem, le⟩ := I
  have xl := (C.ok i hi).le
  refine ⟨ch.snoc (okR_of (C.ok i hi) (Nat.le_refl _) (by omega) (by omega)) (sep hi), fun p q => by rw [snoc_last]; have := C.gap i p; show r.1 - 1 + 1 < _; omega, fun k => ?_, ?_⟩
  · rw [MemR_succ i f, MemR_snoc, mem k]
    by_cases p3 : MemR i f k <;> simp only [p3, true_or, or_true, or_false, false_or, true_and, false_and, and_true, iff_true, true_iff, iff_false, false_iff, not_true, not_false_eq_true, iff_self] <;> omega
  · rcases le with q | ⟨q, p⟩
    · exact .inl (by omega)
    · have := p hi; omega
theorem MinI.right (C : CanonR n f) (I : MinI n f r i m h) (hi : i < n) (rl : r.1 ≤ r.2) (h0 : r.1 ≤ (f i).1) (h1 : (f i).1 ≤ r.2) (h2 : r.2 < (f i).2) : MinI n f r (i + 1) (m + 1) (snoc m h (r.2 + 1, (f i).2)) := by
  obtain ⟨ch, sep, mem, le⟩ := I
  have xl := (C.ok i hi).le
  refine ⟨ch.snoc (okR_of (C.ok i hi) (by omega) (by omega) (Nat.le_refl _)) (fun q => by have := sep hi q; show _ < r.2 + 1; omega), fun p q => by rw [snoc_last]; have := C.gap i p; exact this, fun k => ?_, ?_⟩
  · rw [MemR_succ i f, MemR_snoc, mem k]
    by_cases p3 : MemR i f k <;> simp only [p3, true_or, or_true, or_false, false_or, true_and, false_and, and_true, iff_true, true_iff, iff_false, false_iff, not_true, not_false_eq_true, iff_self] <;> omega
  · rcases le with q | ⟨q, p⟩
    · exact .inl (by omega)
    · have := p hi; omega
theorem MinI.both (C : CanonR n f) (I : MinI n f r i m h) (hi : i < n) (rl : r.1 ≤ r.2) (h0 : (f i).1 < r.1) (h2 : r.2 < (f i).2) : MinI n f r (i + 1) (m + 1 + 1) (snoc (m + 1) (snoc m h ((f i).1, r.1 - 1)) (r.2 + 1, (f i).2)) := by
  obtain ⟨ch, sep, mem, le⟩ := I
  have xl := (C.ok i hi).le
  have A := ch.snoc (r := ((f i).1, r.1 - 1)) (okR_of (C.ok i hi) (Nat.le_refl _) (by omega) (by omega)) (sep hi)
  refine ⟨A.snoc (r := (r.2 + 1, (f i).2)) (okR_of (C.ok i hi) (by omega) (by omega) (Nat.le_refl _)) (fun q => by rw [snoc_last]; show r.1 - 1 + 1 < r.2 + 1; omega), fun p q => by rw [snoc_last]; have := C.gap i p; exact this, fun k => ?_, ?_⟩
  · rw [MemR_succ i f, MemR_snoc, MemR_snoc, mem k]
    by_cases p3 : MemR i f k <;> simp only [p3, true_or, or_true, or_false, false_or, true_and, false_and, and_true, iff_true, true_iff, iff_false, false_iff, not_true, not_false_eq_true, iff_self] <;> omega
  · rcases le with q | ⟨q, p⟩
    · exact .inr ⟨by omega, fun s => by have := C.gap i s; omega⟩
    · have := p hi; omega
theorem MinI.done (I : MinI n f r n m h) : CanonR m h ∧ (∀ k, MemR m h k ↔ MemR n f k ∧ ¬ (r.1 ≤ k ∧ k ≤ r.2)) ∧ m ≤ n + 1 :=
  ⟨I.ch, I.mem, by rcases I.le with q | ⟨q, _⟩ <;> omega⟩
/-- How long lists get behind i steps: N what is, K what is kept. -/
def Gro (i N K : Nat) : Prop := ∃ q d, 1 ≤ q ∧ N + 2 ≤ q * d ∧ K + 2 ≤ d ∧ d ^ 3 * 3 ^ q ≤ 24 * 3 ^ i
theorem cube_le : ∀ q, 1 ≤ q → q ^ 3 ≤ 3 ^ q
  | 0, h => by omega
  | 1, _ => by decide
  | 2, _ => by decide
  | 3, _ => by decide
  | q + 4, _ => by
    have ih := cube_le (q + 3) (by omega)
    have e1 : 3 ^ (q + 4) = 3 ^ (q + 3) * 3 := Nat.pow_succ ..
    rw [e1]
    refine Nat.le_trans ?_ (Nat.mul_le_mul_right 3 ih)
    generalize q = t
    have a : (t + 4) ^ 3 = t * t * t + 12 * (t * t) + 48 * t + 64 := by
      have e1 : t * 4 * t = 4 * (t * t) := by rw [Nat.mul_comm t 4, Nat.mul_assoc]
      have e2 : 4 * t * t = 4 * (t * t) := Nat.mul_assoc ..
      simp only [Nat.pow_succ, Nat.pow_zero, Nat.one_mul, Nat.add_mul, Nat.mul_add, e1, e2]
      omega
    have b : (t + 3) ^ 3 = t * t * t + 9 * (t * t) + 27 * t + 27 := by
      have e1 : t * 3 * t = 3 * (t * t) := by rw [Nat.mul_comm t 3, Nat.mul_assoc]
      have e2 : 3 * t * t = 3 * (t * t) := Nat.mul_assoc ..
      simp only [Nat.pow_succ, Nat.pow_zero, Nat.one_mul, Nat.add_mul, Nat.mul_add, e1, e2]
      omega
    rw [a, b]
    omega
theorem Gro.start : Gro 0 0 0 := ⟨1, 2, by decide, by decide, by decide, by decide⟩
theorem Gro.keep {i N K N' K' : Nat} (G : Gro i N K) (h1 : N' ≤ N) (h2 : K' ≤ N) : Gro (i + 1) N' K' := by
  obtain ⟨q, d, q1, hN, hK, hp⟩ := G
  refine ⟨1, q * d, Nat.le_refl _, by omega, by omega, ?_⟩
  rw [Nat.mul_pow, Nat.pow_succ 3 i, Nat.pow_one, ← Nat.mul_assoc]
  refine Nat.mul_le_mul_right 3 (Nat.le_trans ?_ hp)
  rw [Nat.mul_comm]
  exact Nat.mul_le_mul_left _ (cube_le q q1)
theorem Gro.add {i N K N' K' : Nat} (G : Gro i N K) (h1 : N' ≤ N + K + 2) (h2 : K' ≤ K) : Gro (i + 1) N' K' := by
  obtain ⟨q, d, q1, hN, hK, hp⟩ := G
  refine ⟨q + 1, d, by omega, by rw [Nat.add_mul, Nat.one_mul]; omega, by omega, ?_⟩
  rw [Nat.pow_succ 3 q, Nat.pow_succ 3 i, ← Nat.mul_assoc, ← Nat.mul_assoc]
  exact Nat.mul_le_mul_right 3 hp
theorem Gro.bound {i N K : Nat} (G : Gro i N K) (hi : i ≤ 40) : N ≤ 7000000 ∧ K ≤ 7000000 := by
  obtain ⟨q, d, q1, hN, hK, hp⟩ := G
  have h1 : (q * d) ^ 3 ≤ 24 * 3 ^ 40 := by
    rw [Nat.mul_pow, Nat.mul_comm]
    exact Nat.le_trans (Nat.mul_le_mul_left _ (cube_le q q1)) (Nat.le_trans hp (Nat.mul_le_mul_left _ (Nat.pow_le_pow_right (by omega) hi)))
  have h2 : q * d < 7000000 := Nat.lt_of_not_le fun h => by
    have := Nat.pow_le_pow_left h 3
    have h3 : (7000000 : Nat) ^ 3 ≤ 24 * 3 ^ 40 := Nat.le_trans this h1
    exact absurd h3 (by decide)
  have h3 : d ≤ q * d := Nat.le_mul_of_pos_left d q1
  omega
theorem Gro.step {i N K : Nat} (G : Gro i N K) (hi : i < 40) : N + K + 2 ≤ 7000000 := ((G.add (N' := N + K + 2) (K' := K) (Nat.le_refl _) (Nat.le_refl _)).bound hi).1
end Go.Proofs.YtmoabfpdlbngeaaGreatDoor
end

section
namespace Go.Proofs.YtmoabfpdlbngeaaGreatDoor
open Go.RowKit
set_option maxHeartbeats 400000
set_option linter.unusedVariables false
set_option linter.unusedSimpArgs false
/-- What normalizing leaves. -/
def Nrm (w : World) (B : Nat) (vi vo : Value) (N : Nat) (S : Nat → Prop) (w' : World) (v : Value) (m : Nat) (h : Nat → Nat × Nat) : Prop :=
  Moved w w' B vi vo v (.slice none 0 0) ∧ Bld w' B v (.slice none 0 0) m h 0 h ∧ (∀ k, v.ownBlock = some k → w.heap.size ≤ k) ∧ CanonR m h ∧ (∀ k, MemR m h k ↔ S k) ∧ m ≤ N
theorem s124 (B : Nat) (vi vo : Value) (N : Nat) (S : Nat → Prop) (hN : N ≤ 80000000) (w : World) (H : Bs w B vi vo N S) : Calls Tryz.prog 124 #[.pointer (some ⟨B, 0, none⟩)] w fun e w' => e = .returned (.tuple #[]) ∧ ∃ v m h, Nrm w B vi vo N S w' v m h := by
  obtain ⟨n, f, n', f', H, h1, h2⟩ := H
  refine (c124 B vi vo n f n' f' (by omega) (by omega) w H).mono ?_
  rintro e w' ⟨rfl, v, m, h, C, H', fr, K, M, l⟩
  exact ⟨rfl, v, m, h, moved124 (.refl _ w) C fr, H', fr, K, fun k => (M k).trans (h2 k).symm, by omega⟩
def z4K : Nat := 0
def z6K : Nat := 8589934592
theorem k93z (w : World) : Calls Tryz.prog 93 #[.agg #[.int .u8 0, .int .u8 0, .int .u8 0, .int .u8 0]] w fun e w' => e = .returned (.agg #[.int .u64 (hK z4K), .int .u64 (lK z4K), .bool true, .bool (sK z4K), .string ⟨#[]⟩]) ∧ Plus w w' := c93 0 0 0 0 w
theorem k54z (w : World) : Calls Tryz.prog 54 #[.agg #[.int .u64 (hK z4K), .int .u64 (lK z4K), .bool true, .bool (sK z4K), .string ⟨#[]⟩], .int .i64 0] w fun e w' => e = .returned (.agg #[.int .u64 (hK z4K), .int .u64 (lK z4K), .bool true, .bool (sK z4K), .string ⟨#[]⟩, .int .u8 1]) ∧ Plus w w' := k54 z4K 0 (by decide) (by decide) w
theorem k54y (w : World) : Calls Tryz.prog 54 #[.agg #[.int .u64 (hK z6K), .int .u64 (lK z6K), .bool true, .bool (sK z6K), .string ⟨#[]⟩], .int .i64 0] w fun e w' => e = .returned (.agg #[.int .u64 (hK z6K), .int .u64 (lK z6K), .bool true, .bool (sK z6K), .string ⟨#[]⟩, .int .u8 1]) ∧ Plus w w' := k54 z6K 0 (by decide) (by decide) w
theorem pfR_z4 : pfR z4K 0 = allR false := by decide
theorem pfR_z6 : pfR z6K 0 = allR true := by decide
theorem k106z (w : World) : Calls Tryz.prog 106 #[.agg #[.int .u64 (hK z4K), .int .u64 (lK z4K), .bool true, .bool (sK z4K), .string ⟨#[]⟩, .int .u8 1]] w fun e w' => e = .returned (.agg #[.int .u64 (hK (allR false).1), .int .u64 (lK (allR false).1), .bool true, .bool (sK (allR false).1), .string ⟨#[]⟩, .int .u64 (hK (allR false).2), .int .u64 (lK (allR false).2), .bool true, .bool (sK (allR false).2), .string ⟨#[]⟩]) ∧ Plus w w' := by
  have hq := k106 z4K 0 (by decide) (by decide) w
  rw [pfR_z4] at hq
  exact hq
theorem k106y (w : World) : Calls Tryz.prog 106 #[.agg #[.int .u64 (hK z6K), .int .u64 (lK z6K), .bool true, .bool (sK z6K), .string ⟨#[]⟩, .int .u8 1]] w fun e w' => e = .returned (.agg #[.int .u64 (hK (allR true).1), .int .u64 (lK (allR true).1), .bool true, .bool (sK (allR true).1), .string ⟨#[]⟩, .int .u64 (hK (allR true).2), .int .u64 (lK (allR true).2), .bool true, .bool (sK (allR true).2), .string ⟨#[]⟩]) ∧ Plus w w' := by
  have hq := k106 z6K 0 (by decide) (by decide) w
  rw [pfR_z6] at hq
  exact hq
theorem x125 (w : World) : Calls Tryz.prog 125 #[] w fun e w' => e = .returned (.agg #[.int .u64 0, .int .u64 0, .bool true, .bool true, .string ⟨#[]⟩]) ∧ Plus w w' := by
  go_enter Tryz.func125, Tryz.ntmps125

  go_wp2_with (first | (go_at_call 132; (with_reducible refine (c132 _).mono ?_); rintro e w' ⟨rfl, dd, oo, rfl⟩))
  exact bodyPost_ret (v := .agg #[.int .u64 0, .int .u64 0, .bool true, .bool true, .string ⟨#[]⟩]) (by simp [results, Tryz.results125, go_sem, IntWalk.iteOmega, ↓IntWalk.iteOmega]) rfl ⟨rfl, by repeat (first | exact Plus.refl _ | refine Plus.alloc ?_ _ | refine Plus.plus ?_ _ _ | refine Plus.drew ?_ | refine Plus.drewN ?_ _)⟩

theorem k125 (w : World) : Calls Tryz.prog 125 #[] w fun e w' => e = .returned (.agg #[.int .u64 (hK z6K), .int .u64 (lK z6K), .bool true, .bool (sK z6K), .string ⟨#[]⟩]) ∧ Plus w w' := x125 w
def allF : Nat → Nat × Nat := fun i => if i = 0 then allR false else allR true
theorem allF_ok : valR 2 allF := fun i hi => by
  unfold allF
  split <;> exact allR_ok _
theorem MemR_all (k : Nat) : MemR 2 allF k ↔ okK k := by
  unfold okK
  constructor
  · rintro ⟨i, hi, q⟩
    have e : i = 0 ∨ i = 1 := by omega
    rcases e with e | e <;> subst e <;> simp [allF, allR] at q <;> omega
  · intro q
    by_cases p : k < 4294967296
    · exact ⟨0, by omega, by simp [allF, allR]; omega⟩
    · exact ⟨1, by omega, by simp [allF, allR]; omega⟩
theorem CanonR_all : CanonR 2 allF := ⟨allF_ok, fun i hi => by
  obtain rfl : i = 0 := by omega
  decide⟩
/-- The complement: what was in goes out, all comes in. -/
theorem compl_end {w w1 X : World} {B G : Nat} {vi vo v : Value} {N : Nat} {S : Nat → Prop} {m : Nat} {h : Nat → Nat × Nat} (Z : Nrm w B vi vo N S w1 v m h) (C : Chg (fun _ => False) ((w1.setCell ⟨B, 1, none⟩ v).setCell ⟨B, 0, none⟩ (.slice (some ⟨G, 0, none⟩) 2 2)) X) (hG : G = X.heap.size) (cs : Array Value) (hcs : cs.toList = cellsD layR 2 allF) :
    Stp w B vi vo (N + 2) (fun k => okK k ∧ ¬ S k) (X.alloc (.cells cs 80)) := by
  obtain ⟨A, H, fr, K, M, l⟩ := Z
  have hB1 := H.blk
  have hBlt : B < w1.heap.size := (Array.getElem?_eq_some_iff.1 hB1).1
  have C1 : Chg (fun k => k = B) w1 ((w1.setCell ⟨B, 1, none⟩ v).setCell ⟨B, 0, none⟩ (.slice (some ⟨G, 0, none⟩) 2 2)) := ((Chg.refl (fun k => k = B) w1).setCell _ _ (fun _ => rfl)).setCell _ _ (fun _ => rfl)
  have hB2 : ((w1.setCell ⟨B, 1, none⟩ v).setCell ⟨B, 0, none⟩ (.slice (some ⟨G, 0, none⟩) 2 2)).heap[B]? = some (.cells #[.slice (some ⟨G, 0, none⟩) 2 2, v, .slice none 0 0] 129 (0, 0)) := by
    rw [setCell_eq_setRow w1 B 1 _ 129 (0, 0) v hB1]
    rw [setCell_eq_setRow _ B 0 _ 129 (0, 0) _ (setRow_heap w1 B _ _ 129 (0, 0) hB1)]
    rw [setRow_heap _ B _ _ 129 (0, 0) (setRow_heap w1 B _ _ 129 (0, 0) hB1)]
    rfl
  have hl2 : B < ((w1.setCell ⟨B, 1, none⟩ v).setCell ⟨B, 0, none⟩ (.slice (some ⟨G, 0, none⟩) 2 2)).heap.size := (Array.getElem?_eq_some_iff.1 hB2).1
  have hB3 := (C.block B hl2 id).trans hB2
  have hBW : B < X.heap.size := (Array.getElem?_eq_some_iff.1 hB3).1
  have hB4 := (Below.heap_alloc X (.cells cs 80) B hBW).trans hB3
  have C5 : Chg (fun k => k = B) w1 (X.alloc (.cells cs 80)) := (C1.trans (C.mono fun _ _ q => q.elim)).alloc _
  have hsz : w1.heap.size ≤ X.heap.size := (C1.trans (C.mono fun _ _ q => q.elim)).size
  have O : OwnDV layR 80 (X.alloc (.cells cs 80)) (.slice (some ⟨G, 0, none⟩) 2 2) 2 allF := by rw [hG]; exact OwnDV.new X cs 2 allF hcs (by omega)
  refine ⟨_, v, A.trans ⟨C5.mono fun k _ q => .inl q, fun k q => ?_⟩, 2, allF, m, h, ⟨hB4, own_from O, H.i.chg C5 (fun k e q => H.notB.1 (by rw [e, q])), allF_ok, H.oki, fun k e q => ?_⟩, by omega, fun k => ?_⟩
  · rcases q with q | q
    · simp only [Value.ownBlock, Option.some.injEq] at q
      exact .inr (by omega)
    · exact .inl (.inl q)
  · simp only [Value.ownBlock, Option.some.injEq] at e
    have := H.i.lt q
    omega
  · rw [MemR_all, M k]
theorem s78 (B : Nat) (vi vo : Value) (N : Nat) (S : Nat → Prop) (hN : N ≤ 80000000) (w : World) (H : Bs w B vi vo N S) : Calls Tryz.prog 78 #[.pointer (some ⟨B, 0, none⟩)] w fun e w' => e = .returned (.tuple #[]) ∧ Stp w B vi vo (N + 2) (fun k => okK k ∧ ¬ S k) w' := by
  go_enter Tryz.func78, Tryz.ntmps78

  go_wp2_with fail
  refine (s124 B vi vo N S hN _ H).mono ?_
  rintro e w1 ⟨rfl, v, m, h, Z⟩
  clear H
  obtain ⟨p, c, rfl⟩ := Z.2.1.i.form
  have HZ : Hid _ := Z
  obtain ⟨cB0, cB1, cB2, fB0, fB1, fB2⟩ := blkB Z.2.1.blk
  have hBlt : B < w1.heap.size := (Array.getElem?_eq_some_iff.1 Z.2.1.blk).1
  clear Z
  go_wp2_with (first | (go_at_call 93; (with_reducible refine (k93z _).mono ?_); rintro e w' ⟨rfl, dd, oo, rfl⟩) | (go_at_call 54; (with_reducible refine (k54z _).mono ?_); rintro e w' ⟨rfl, dd, oo, rfl⟩) | (go_at_call 54; (with_reducible refine (k54y _).mono ?_); rintro e w' ⟨rfl, dd, oo, rfl⟩) | (go_at_call 106; (with_reducible refine (k106z _).mono ?_); rintro e w' ⟨rfl, dd, oo, rfl⟩) | (go_at_call 106; (with_reducible refine (k106y _).mono ?_); rintro e w' ⟨rfl, dd, oo, rfl⟩) | (go_at_call 125; (with_reducible refine (k125 _).mono ?_); rintro e w' ⟨rfl, dd, oo, rfl⟩))
  go_end0
  refine ⟨rfl, ?_⟩
  refine compl_end HZ.out (by (repeat (with_reducible first | refine Chg.plus ?_ _ _ | refine Chg.alloc ?_ _ | refine Chg.drew ?_ | exact Chg.refl _ _))) ?_ _ rfl
  simp [World.setCell]
end Go.Proofs.YtmoabfpdlbngeaaGreatDoor
end

section
namespace Go.Proofs.YtmoabfpdlbngeaaGreatDoor
open Go.RowKit
set_option maxHeartbeats 400000
set_option linter.unusedVariables false
set_option linter.unusedSimpArgs false
/-- A set that lies whole. -/
structure SetAt (w : World) (P : Nat) (v : Value) (m : Nat) (h : Nat → Nat × Nat) : Prop where
  blk : w.heap[P]? = some (.cells #[v] 131 (0, 0))
  own : OwnV w v m h
  can : CanonR m h
theorem SetAt.chg {F : Nat → Prop} {w w' : World} {P : Nat} {v : Value} {m : Nat} {h : Nat → Nat × Nat} (H : SetAt w P v m h) (C : Chg F w w') (h1 : ¬ F P) (h2 : ∀ k, v.ownBlock = some k → ¬ F k) : SetAt w' P v m h :=
  ⟨(C.block P (Array.getElem?_eq_some_iff.1 H.blk).1 h1).trans H.blk, H.own.chg C h2, H.can⟩
theorem SetAt.lt {w : World} {P : Nat} {v : Value} {m : Nat} {h : Nat → Nat × Nat} (H : SetAt w P v m h) : P < w.heap.size := (Array.getElem?_eq_some_iff.1 H.blk).1
theorem SetAt.cell {w : World} {P : Nat} {v : Value} {m : Nat} {h : Nat → Nat × Nat} (H : SetAt w P v m h) : w.cell? ⟨P, 0, none⟩ = some v := by
  rw [cell_of_row w P 0 _ 131 (0, 0) H.blk]; rfl
/-- A builder's blocks are none of a set's. -/
theorem Bs.blk {w : World} {B : Nat} {vi vo : Value} {N : Nat} {S : Nat → Prop} (H : Bs w B vi vo N S) : (∃ cs, w.heap[B]? = some (.cells cs 129 (0, 0))) ∧ ∀ k, (vi.ownBlock = some k ∨ vo.ownBlock = some k) → ∃ cs, w.heap[k]? = some (.cells cs 80 (0, 0)) := by
  obtain ⟨n, f, n', f', H, _⟩ := H
  exact ⟨⟨_, H.blk⟩, fun k q => q.elim H.i.ty H.o.ty⟩
def Apt (v vi vo : Value) : Prop := ∀ k, v.ownBlock = some k → ¬ (vi.ownBlock = some k ∨ vo.ownBlock = some k)
theorem set_far {w : World} {B P : Nat} {vi vo v : Value} {N : Nat} {S : Nat → Prop} {m : Nat} {h : Nat → Nat × Nat} (H : Bs w B vi vo N S) (K : SetAt w P v m h) (A : Apt v vi vo) :
    ¬ (P = B ∨ vi.ownBlock = some P ∨ vo.ownBlock = some P) ∧ ∀ k, v.ownBlock = some k → ¬ (k = B ∨ vi.ownBlock = some k ∨ vo.ownBlock = some k) := by
  obtain ⟨⟨c1, b1⟩, b2⟩ := H.blk
  constructor
  · rintro (q | q)
    · subst q; rw [K.blk] at b1; simp at b1
    · obtain ⟨c2, b3⟩ := b2 P q
      rw [K.blk] at b3; simp at b3
  · rintro k e (q | q)
    · subst q
      obtain ⟨c2, b3⟩ := K.own.ty e
      rw [b1] at b3; simp at b3
    · exact A k e q
theorem SetAt.moved {w w' : World} {B P : Nat} {vi vo vi' vo' v : Value} {N : Nat} {S : Nat → Prop} {m : Nat} {h : Nat → Nat × Nat} (H : Bs w B vi vo N S) (K : SetAt w P v m h) (A : Apt v vi vo) (M : Moved w w' B vi vo vi' vo') : SetAt w' P v m h ∧ Apt v vi' vo' := by
  obtain ⟨f1, f2⟩ := set_far H K A
  refine ⟨K.chg M.chg f1 f2, fun k e q => ?_⟩
  rcases M.own k q with q | q
  · exact A k e q
  · have := K.own.lt e; omega
theorem s81 (B : Nat) (vi vo : Value) (N : Nat) (S : Nat → Prop) (hN : N ≤ 40000000) (P : Nat) (v : Value) (m : Nat) (h : Nat → Nat × Nat) (hm : m ≤ 40000000) (w : World) (H : Bs w B vi vo N S) (K : SetAt w P v m h) (A : Apt v vi vo) : Calls Tryz.prog 81 #[.pointer (some ⟨B, 0, none⟩), .pointer (some ⟨P, 0, none⟩)] w fun e w' => e = .returned (.tuple #[]) ∧ Stp w B vi vo (N + m) (fun k => S k ∨ MemR m h k) w' := by
  obtain ⟨p, c, rfl⟩ := K.own.form
  have HH : Hid _ := H
  have HK : Hid _ := K
  have HA : Hid _ := A
  have cP := K.cell
  clear H K A
  go_enter Tryz.func81, Tryz.ntmps81

  go_wp2_with fail
  go_loopw [13] (fun t13 wr => ∃ i : Nat, t13 = .int .i64 i ∧ i ≤ m ∧ Hid (∃ vi' vo', Moved w wr B vi vo vi' vo' ∧ Bs wr B vi' vo' (N + i) (fun k => S k ∨ MemR i h k)))
    (fun t13 _ => m - (intOf t13).toNat)
  case atStart => exact ⟨0, rfl, Nat.zero_le _, ⟨vi, vo, .refl _ _ _ _, Bs.congr HH.out (by omega) fun k => by simp [MemR_zero]⟩⟩
  case round =>
    obtain ⟨i, rfl, hi, X⟩ := hrel
    by_cases hlt : i < m
    · obtain ⟨vi', vo', X1, X2⟩ := X.out
      have HX1 : Hid _ := X1
      have HX2 : Hid _ := X2
      clear X
      obtain ⟨K2, A2⟩ := SetAt.moved HH.out HK.out HA.out X1
      have hrow : ∃ G cap, p = some ⟨G, 0, none⟩ ∧ c = cap ∧ OwnR wr G m cap h := by
        rcases K2.own with ⟨_, q⟩ | ⟨G, cap, e, q⟩
        · omega
        · simp only [Value.slice.injEq, true_and] at e
          exact ⟨G, cap, e.1, e.2, q⟩
      obtain ⟨G, cap, rfl, rfl, R⟩ := hrow
      have hG := R.lt
      have hle := R.le
      have r1 := R.row i hlt
      rw [Nat.zero_add] at r1
      obtain ⟨ca0, ca1, ca2, ca3, ca4, ca5, ca6, ca7, ca8, ca9⟩ := rc_cells r1
      have ok : okR (h i) := HK.out.can.ok i hlt
      clear X1 X2 K2 A2 R r1 cP
      go_wp2_with fail
      refine (s72 B vi' vo' (N + i) _ (by omega) (h i) ok _ (Bs.chg0 HX2.out (by (repeat (with_reducible first | refine Chg.plus ?_ _ _ | refine Chg.alloc ?_ _ | refine Chg.drew ?_ | exact Chg.refl _ _))))).mono ?_
      rintro e w2 ⟨rfl, Z⟩
      have HZ : Hid (∃ vi' vo', Moved w w2 B vi vo vi' vo' ∧ Bs w2 B vi' vo' (N + (i + 1)) (fun k => S k ∨ MemR (i + 1) h k)) := by
        obtain ⟨v1, v2, z1, z2⟩ := Stp.from0 (w := wr) Z (by (repeat (with_reducible first | refine Chg.plus ?_ _ _ | refine Chg.alloc ?_ _ | refine Chg.drew ?_ | exact Chg.refl _ _)))
        exact ⟨v1, v2, HX1.out.trans z1, z2.congr (by omega) fun k => by rw [MemR_succ]; exact or_assoc⟩
      clear Z ca0 ca1 ca2 ca3 ca4 ca5 ca6 ca7 ca8 ca9
      go_wp2_with fail
      go_roundw
      case rel => exact ⟨i + 1, by go_num, by omega, HZ.out⟩
      case measure => simp [intOf]; omega
    · obtain rfl : i = m := by omega
      go_wp2_with fail
      go_end0
      exact ⟨rfl, X.out⟩
theorem s82 (B : Nat) (vi vo : Value) (N : Nat) (S : Nat → Prop) (hN : N ≤ 40000000) (P : Nat) (v : Value) (m : Nat) (h : Nat → Nat × Nat) (hm : m ≤ 40000000) (w : World) (H : Bs w B vi vo N S) (K : SetAt w P v m h) (A : Apt v vi vo) : Calls Tryz.prog 82 #[.pointer (some ⟨B, 0, none⟩), .pointer (some ⟨P, 0, none⟩)] w fun e w' => e = .returned (.tuple #[]) ∧ Stp w B vi vo (N + m) (fun k => S k ∧ ¬ MemR m h k) w' := by
  obtain ⟨p, c, rfl⟩ := K.own.form
  have HH : Hid _ := H
  have HK : Hid _ := K
  have HA : Hid _ := A
  have cP := K.cell
  clear H K A
  go_enter Tryz.func82, Tryz.ntmps82

  go_wp2_with fail
  go_loopw [13] (fun t13 wr => ∃ i : Nat, t13 = .int .i64 i ∧ i ≤ m ∧ Hid (∃ vi' vo', Moved w wr B vi vo vi' vo' ∧ Bs wr B vi' vo' (N + i) (fun k => S k ∧ ¬ MemR i h k)))
    (fun t13 _ => m - (intOf t13).toNat)
  case atStart => exact ⟨0, rfl, Nat.zero_le _, ⟨vi, vo, .refl _ _ _ _, Bs.congr HH.out (by omega) fun k => by simp [MemR_zero]⟩⟩
  case round =>
    obtain ⟨i, rfl, hi, X⟩ := hrel
    by_cases hlt : i < m
    · obtain ⟨vi', vo', X1, X2⟩ := X.out
      have HX1 : Hid _ := X1
      have HX2 : Hid _ := X2
      clear X
      obtain ⟨K2, A2⟩ := SetAt.moved HH.out HK.out HA.out X1
      have hrow : ∃ G cap, p = some ⟨G, 0, none⟩ ∧ c = cap ∧ OwnR wr G m cap h := by
        rcases K2.own with ⟨_, q⟩ | ⟨G, cap, e, q⟩
        · omega
        · simp only [Value.slice.injEq, true_and] at e
          exact ⟨G, cap, e.1, e.2, q⟩
      obtain ⟨G, cap, rfl, rfl, R⟩ := hrow
      have hG := R.lt
      have hle := R.le
      have r1 := R.row i hlt
      rw [Nat.zero_add] at r1
      obtain ⟨ca0, ca1, ca2, ca3, ca4, ca5, ca6, ca7, ca8, ca9⟩ := rc_cells r1
      have ok : okR (h i) := HK.out.can.ok i hlt
      clear X1 X2 K2 A2 R r1 cP
      go_wp2_with fail
      refine (s73 B vi' vo' (N + i) _ (by omega) (h i) ok _ (Bs.chg0 HX2.out (by (repeat (with_reducible first | refine Chg.plus ?_ _ _ | refine Chg.alloc ?_ _ | refine Chg.drew ?_ | exact Chg.refl _ _))))).mono ?_
      rintro e w2 ⟨rfl, Z⟩
      have HZ : Hid (∃ vi' vo', Moved w w2 B vi vo vi' vo' ∧ Bs w2 B vi' vo' (N + (i + 1)) (fun k => S k ∧ ¬ MemR (i + 1) h k)) := by
        obtain ⟨v1, v2, z1, z2⟩ := Stp.from0 (w := wr) Z (by (repeat (with_reducible first | refine Chg.plus ?_ _ _ | refine Chg.alloc ?_ _ | refine Chg.drew ?_ | exact Chg.refl _ _)))
        exact ⟨v1, v2, HX1.out.trans z1, z2.congr (by omega) fun k => by rw [MemR_succ]; rw [not_or, and_assoc]⟩
      clear Z ca0 ca1 ca2 ca3 ca4 ca5 ca6 ca7 ca8 ca9
      go_wp2_with fail
      go_roundw
      case rel => exact ⟨i + 1, by go_num, by omega, HZ.out⟩
      case measure => simp [intOf]; omega
    · obtain rfl : i = m := by omega
      go_wp2_with fail
      go_end0
      exact ⟨rfl, X.out⟩
end Go.Proofs.YtmoabfpdlbngeaaGreatDoor
end
