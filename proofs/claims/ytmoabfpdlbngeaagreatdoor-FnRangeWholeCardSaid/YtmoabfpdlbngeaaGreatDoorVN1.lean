/-
  Part of the proofs on the laws of pub-addresssets: joined texts (N1, N2).
-/
import Derived.Test.YtmoabfpdlbngeaaGreatDoorVM2
section
set_option linter.unusedSimpArgs false
/- What is in without what is out: the rounds of the walk over two lists in order, in plain words. -/
namespace Go.Proofs.YtmoabfpdlbngeaaGreatDoor
open Go.RowKit
set_option linter.unusedVariables false
theorem ok_between {a b k : Nat} (oa : okK a) (ob : okK b) (s : sK a = sK b) (h1 : a ≤ k) (h2 : k ≤ b) : okK k ∧ sK k = sK a := by
  unfold sK at *; unfold okK at *
  rw [Bool.eq_iff_iff] at *
  simp only [decide_eq_true_eq] at *
  omega
theorem okR_of {a b x y : Nat} (o : okR (a, b)) (h1 : a ≤ x) (h2 : x ≤ y) (h3 : y ≤ b) : okR (x, y) := by
  have o1 := o.a; have o2 := o.b; have o3 := o.s
  have p := ok_between o1 o2 o3 h1 (Nat.le_trans h2 h3)
  have q := ok_between o1 o2 o3 (Nat.le_trans h1 h2) h3
  exact ⟨p.1, q.1, p.2.trans q.2.symm, h2⟩
def tl (f : Nat → Nat × Nat) : Nat → Nat × Nat := fun i => f (1 + i)
def snoc (m : Nat) (h : Nat → Nat × Nat) (r : Nat × Nat) : Nat → Nat × Nat := fun j => if j < m then h j else r
def set0 (f : Nat → Nat × Nat) (x : Nat × Nat) : Nat → Nat × Nat := fun j => if j = 0 then x else f j
theorem CanonR.lt {m : Nat} {h : Nat → Nat × Nat} (C : CanonR m h) : ∀ j i, i < j → j < m → (h i).2 + 1 < (h j).1 := by
  intro j
  induction j with
  | zero => intro i hi; omega
  | succ j ih =>
    intro i hi hj
    have g := C.gap j hj
    by_cases e : i = j
    · subst e; exact g
    · have := ih i (by omega) (by omega)
      have := (C.ok j (by omega)).le
      omega
theorem CanonR.tl {m : Nat} {h : Nat → Nat × Nat} (C : CanonR m h) : CanonR (m - 1) (tl h) :=
  ⟨fun i hi => C.ok (1 + i) (by omega), fun i hi => C.gap (1 + i) (by omega)⟩
theorem CanonR.snoc {m : Nat} {h : Nat → Nat × Nat} (C : CanonR m h) {r : Nat × Nat} (o : okR r) (g : 0 < m → (h (m - 1)).2 + 1 < r.1) : CanonR (m + 1) (snoc m h r) := by
  refine ⟨fun i hi => ?_, fun i hi => ?_⟩
  · unfold Proofs.YtmoabfpdlbngeaaGreatDoor.snoc
    by_cases e : i < m
    · rw [if_pos e]; exact C.ok i e
    · rw [if_neg e]; exact o
  · unfold Proofs.YtmoabfpdlbngeaaGreatDoor.snoc
    rw [if_pos (by omega)]
    by_cases e : i + 1 < m
    · rw [if_pos e]; exact C.gap i e
    · rw [if_neg e]
      have := g (by omega)
      rwa [show m - 1 = i by omega] at this
theorem CanonR.set0 {m : Nat} {h : Nat → Nat × Nat} (C : CanonR m h) {x : Nat} (h1 : (h 0).1 ≤ x) (h2 : x ≤ (h 0).2) : CanonR m (set0 h (x, (h 0).2)) := by
  refine ⟨fun i hi => ?_, fun i hi => ?_⟩
  · unfold Proofs.YtmoabfpdlbngeaaGreatDoor.set0
    by_cases e : i = 0
    · rw [if_pos e]; exact okR_of (C.ok 0 (by omega)) h1 h2 (Nat.le_refl _)
    · rw [if_neg e]; exact C.ok i hi
  · unfold Proofs.YtmoabfpdlbngeaaGreatDoor.set0
    rw [if_neg (show ¬ i + 1 = 0 by omega)]
    have := C.gap i hi
    by_cases e : i = 0
    · rw [if_pos e]; rw [e] at this ⊢; exact this
    · rw [if_neg e]; exact this
theorem MemR_tl {m : Nat} (hm : 0 < m) (h : Nat → Nat × Nat) (k : Nat) : MemR m h k ↔ ((h 0).1 ≤ k ∧ k ≤ (h 0).2) ∨ MemR (m - 1) (tl h) k := by
  constructor
  · rintro ⟨i, hi, q⟩
    by_cases e : i = 0
    · subst e; exact .inl q
    · exact .inr ⟨i - 1, by omega, by unfold tl; rw [show 1 + (i - 1) = i by omega]; exact q⟩
  · rintro (q | ⟨i, hi, q⟩)
    · exact ⟨0, hm, q⟩
    · exact ⟨1 + i, by omega, q⟩
theorem MemR_set0 {m : Nat} (hm : 0 < m) (h : Nat → Nat × Nat) (x : Nat × Nat) (k : Nat) : MemR m (set0 h x) k ↔ (x.1 ≤ k ∧ k ≤ x.2) ∨ MemR (m - 1) (tl h) k := by
  rw [MemR_tl hm, MemR_congr (h' := tl h) (fun i _ => by unfold tl set0; rw [if_neg (by omega)])]
  rfl
theorem MemR_snoc (m : Nat) (h : Nat → Nat × Nat) (r : Nat × Nat) (k : Nat) : MemR (m + 1) (snoc m h r) k ↔ MemR m h k ∨ (r.1 ≤ k ∧ k ≤ r.2) := by
  rw [MemR_succ, MemR_congr (h' := h) (fun j hj => by unfold snoc; rw [if_pos hj])]
  unfold snoc
  rw [if_neg (by omega)]
theorem MemR_after {m : Nat} {h : Nat → Nat × Nat} (C : CanonR m h) {k : Nat} (q : MemR (m - 1) (tl h) k) : (h 0).2 + 1 < k := by
  obtain ⟨i, hi, q1, q2⟩ := q
  have := C.lt (1 + i) 0 (by omega) (by omega)
  unfold tl at q1
  omega
theorem MemR_before {m : Nat} {h : Nat → Nat × Nat} (C : CanonR m h) {k : Nat} (q : MemR m h k) : 0 < m ∧ k ≤ (h (m - 1)).2 := by
  obtain ⟨i, hi, q1, q2⟩ := q
  refine ⟨by omega, ?_⟩
  by_cases e : i = m - 1
  · subst e; exact q2
  · have := C.lt (m - 1) i (by omega) (by omega)
    have := (C.ok (m - 1) (by omega)).le
    omega
/-- Between two rounds: what was gathered (h), what is still to come in (fi) and to go out (fo). -/
structure NrmI (T : Nat → Prop) (a : Nat) (fi : Nat → Nat × Nat) (b : Nat) (fo : Nat → Nat × Nat) (m : Nat) (h : Nat → Nat × Nat) : Prop where
  ci : CanonR a fi
  co : CanonR b fo
  ch : CanonR m h
  sep : 0 < m → 0 < a → (h (m - 1)).2 + 1 < (fi 0).1
  mem : ∀ k, T k ↔ MemR m h k ∨ (MemR a fi k ∧ ¬ MemR b fo k)
variable {T : Nat → Prop} {a b m : Nat} {fi fo h : Nat → Nat × Nat}
theorem NrmI.start (ci : CanonR a fi) (co : CanonR b fo) : NrmI (fun k => MemR a fi k ∧ ¬ MemR b fo k) a fi b fo 0 h :=
  ⟨ci, co, ⟨fun i hi => by omega, fun i hi => by omega⟩, fun q => by omega, fun k => ⟨.inr, fun q => q.elim (fun ⟨i, hi, _⟩ => by omega) id⟩⟩
theorem snoc_last (m : Nat) (h : Nat → Nat × Nat) (r : Nat × Nat) : snoc m h r (m + 1 - 1) = r := by unfold snoc; rw [if_neg (by omega)]
theorem NrmI.tlSep (N : NrmI T a fi b fo m h) (ha : 0 < a) : 0 < a - 1 → (fi 0).2 + 1 < (tl fi 0).1 := fun q => N.ci.lt 1 0 (by omega) (by omega)
theorem NrmI.outFirst (N : NrmI T a fi b fo m h) (ha : 0 < a) (hb : 0 < b) (q : (fo 0).2 < (fi 0).1) : NrmI T a fi (b - 1) (tl fo) m h := by
  refine ⟨N.ci, N.co.tl, N.ch, N.sep, fun k => ?_⟩
  have A := @MemR_after _ _ N.ci k
  have := (N.ci.ok 0 ha).le
  rw [N.mem k, MemR_tl ha, MemR_tl hb]
  by_cases hP : MemR (a - 1) (tl fi) k <;> by_cases hQ : MemR (b - 1) (tl fo) k <;> by_cases hH : MemR m h k <;> simp only [hP, hQ, hH, true_or, or_true, or_false, false_or, not_true, not_false_eq_true, and_true, and_false, true_and, false_and, iff_true, true_iff, iff_false, false_iff, Classical.not_not, iff_self] <;> (try have := A hP) <;> omega
theorem NrmI.inKeep (N : NrmI T a fi b fo m h) (ha : 0 < a) (hb : 0 < b) (q : (fi 0).2 < (fo 0).1) : NrmI T (a - 1) (tl fi) b fo (m + 1) (snoc m h (fi 0)) := by
  refine ⟨N.ci.tl, N.co, N.ch.snoc (N.ci.ok 0 ha) (fun q => N.sep q ha), fun _ q => by rw [snoc_last]; exact N.tlSep ha q, fun k => ?_⟩
  have A := @MemR_after _ _ N.ci k
  have B := @MemR_after _ _ N.co k
  have := (N.co.ok 0 hb).le
  rw [N.mem k, MemR_tl ha, MemR_snoc, MemR_tl hb]
  by_cases hP : MemR (a - 1) (tl fi) k <;> by_cases hQ : MemR (b - 1) (tl fo) k <;> by_cases hH : MemR m h k <;> simp only [hP, hQ, hH, true_or, or_true, or_false, false_or, not_true, not_false_eq_true, and_true, and_false, true_and, false_and, iff_true, true_iff, iff_false, false_iff, Classical.not_not, iff_self] <;> (try have := A hP) <;> (try have := B hQ) <;> omega
theorem NrmI.inGone (N : NrmI T a fi b fo m h) (ha : 0 < a) (hb : 0 < b) (q1 : (fo 0).1 ≤ (fi 0).1) (q2 : (fi 0).2 ≤ (fo 0).2) : NrmI T (a - 1) (tl fi) b fo m h := by
  refine ⟨N.ci.tl, N.co, N.ch, fun q r => ?_, fun k => ?_⟩
  · have := N.sep q ha
    have := N.tlSep ha r
    have := (N.ci.ok 0 ha).le
    omega
  · rw [N.mem k, MemR_tl ha, MemR_tl hb]
    by_cases hP : MemR (a - 1) (tl fi) k <;> by_cases hQ : MemR (b - 1) (tl fo) k <;> by_cases hH : MemR m h k <;> simp only [hP, hQ, hH, true_or, or_true, or_false, false_or, not_true, not_false_eq_true, and_true, and_false, true_and, false_and, iff_true, true_iff, iff_false, false_iff, Classical.not_not, iff_self] <;> omega
theorem NrmI.mid (N : NrmI T a fi b fo m h) (ha : 0 < a) (hb : 0 < b) (q1 : (fi 0).1 < (fo 0).1) (q2 : (fo 0).2 < (fi 0).2) :
    NrmI T a (set0 fi ((fo 0).2 + 1, (fi 0).2)) (b - 1) (tl fo) (m + 1) (snoc m h ((fi 0).1, (fo 0).1 - 1)) := by
  have l := (N.co.ok 0 hb).le
  refine ⟨N.ci.set0 (by omega) (by omega), N.co.tl, N.ch.snoc (okR_of (N.ci.ok 0 ha) (Nat.le_refl _) (by omega) (by omega)) (fun q => N.sep q ha), fun _ q => ?_, fun k => ?_⟩
  · rw [snoc_last]; unfold set0; rw [if_pos rfl]; show (fo 0).1 - 1 + 1 < (fo 0).2 + 1; omega
  · have A := @MemR_after _ _ N.ci k
    have B := @MemR_after _ _ N.co k
    rw [N.mem k, MemR_tl ha, MemR_snoc, MemR_tl hb, MemR_set0 ha]
    by_cases hP : MemR (a - 1) (tl fi) k <;> by_cases hQ : MemR (b - 1) (tl fo) k <;> by_cases hH : MemR m h k <;> simp only [hP, hQ, hH, true_or, or_true, or_false, false_or, not_true, not_false_eq_true, and_true, and_false, true_and, false_and, iff_true, true_iff, iff_false, false_iff, Classical.not_not, iff_self] <;> (try have := A hP) <;> (try have := B hQ) <;> omega
theorem NrmI.first (N : NrmI T a fi b fo m h) (ha : 0 < a) (hb : 0 < b) (q1 : (fo 0).1 ≤ (fi 0).1) (q2 : (fi 0).1 ≤ (fo 0).2) (q3 : (fo 0).2 < (fi 0).2) :
    NrmI T a (set0 fi ((fo 0).2 + 1, (fi 0).2)) (b - 1) (tl fo) m h := by
  refine ⟨N.ci.set0 (by omega) (by omega), N.co.tl, N.ch, fun q r => ?_, fun k => ?_⟩
  · have := N.sep q ha
    unfold set0; rw [if_pos rfl]; show (h (m - 1)).2 + 1 < (fo 0).2 + 1; omega
  · have A := @MemR_after _ _ N.ci k
    rw [N.mem k, MemR_tl ha, MemR_tl hb, MemR_set0 ha]
    by_cases hP : MemR (a - 1) (tl fi) k <;> by_cases hQ : MemR (b - 1) (tl fo) k <;> by_cases hH : MemR m h k <;> simp only [hP, hQ, hH, true_or, or_true, or_false, false_or, not_true, not_false_eq_true, and_true, and_false, true_and, false_and, iff_true, true_iff, iff_false, false_iff, Classical.not_not, iff_self] <;> (try have := A hP) <;> omega
theorem NrmI.last (N : NrmI T a fi b fo m h) (ha : 0 < a) (hb : 0 < b) (q1 : (fi 0).1 < (fo 0).1) (q2 : (fo 0).1 ≤ (fi 0).2) (q3 : (fi 0).2 ≤ (fo 0).2) :
    NrmI T (a - 1) (tl fi) b fo (m + 1) (snoc m h ((fi 0).1, (fo 0).1 - 1)) := by
  refine ⟨N.ci.tl, N.co, N.ch.snoc (okR_of (N.ci.ok 0 ha) (Nat.le_refl _) (by omega) (by omega)) (fun q => N.sep q ha), fun _ q => ?_, fun k => ?_⟩
  · rw [snoc_last]
    have := N.tlSep ha q
    show (fo 0).1 - 1 + 1 < _
    omega
  · have B := @MemR_after _ _ N.co k
    rw [N.mem k, MemR_tl ha, MemR_snoc, MemR_tl hb]
    by_cases hP : MemR (a - 1) (tl fi) k <;> by_cases hQ : MemR (b - 1) (tl fo) k <;> by_cases hH : MemR m h k <;> simp only [hP, hQ, hH, true_or, or_true, or_false, false_or, not_true, not_false_eq_true, and_true, and_false, true_and, false_and, iff_true, true_iff, iff_false, false_iff, Classical.not_not, iff_self] <;> (try have := B hQ) <;> omega
/-- At the end: all that is gathered, and all that is still to come in. -/
theorem NrmI.done (N : NrmI T a fi b fo m h) (e : a = 0 ∨ b = 0) : CanonR (m + a) (fun j => if j < m then h j else fi (j - m)) ∧ ∀ k, T k ↔ MemR (m + a) (fun j => if j < m then h j else fi (j - m)) k := by
  obtain ⟨ci, co, ch, sep, mem⟩ := N
  refine ⟨⟨fun i hi => ?_, fun i hi => ?_⟩, fun k => ?_⟩
  · by_cases e : i < m
    · simp only [if_pos e]; exact ch.ok i e
    · simp only [if_neg e]; exact ci.ok (i - m) (by omega)
  · by_cases e : i + 1 < m
    · simp only [if_pos e, if_pos (show i < m by omega)]; exact ch.gap i e
    · by_cases e2 : i < m
      · simp only [if_neg e, if_pos e2]
        have := sep (by omega) (by omega)
        rw [show i = m - 1 by omega, show m - 1 + 1 - m = 0 by omega]; exact this
      · simp only [if_neg e, if_neg e2]
        have := ci.gap (i - m) (by omega)
        rwa [show i - m + 1 = i + 1 - m by omega] at this
  · rw [mem k]
    constructor
    · rintro (⟨i, hi, q⟩ | ⟨⟨i, hi, q⟩, _⟩)
      · exact ⟨i, by omega, by simp only [if_pos hi]; exact q⟩
      · exact ⟨m + i, by omega, by simp only [if_neg (show ¬ m + i < m by omega), show m + i - m = i by omega]; exact q⟩
    · rintro ⟨i, hi, q⟩
      by_cases p : i < m
      · simp only [if_pos p] at q; exact .inl ⟨i, p, q⟩
      · simp only [if_neg p] at q
        refine .inr ⟨⟨i - m, by omega, q⟩, ?_⟩
        rintro ⟨j, hj, _⟩
        omega
end Go.Proofs.YtmoabfpdlbngeaaGreatDoor
end

section
namespace Go.Proofs.YtmoabfpdlbngeaaGreatDoor
open Go.RowKit
set_option maxHeartbeats 400000
set_option linter.unusedVariables false
set_option linter.unusedSimpArgs false
theorem k160 (a b : Nat × Nat) (oa : okR a) (ob : okR b) (x : Bool) (hx : decide (a.2 < b.1) = x) (w : World) : Calls Tryz.prog 160 #[.agg #[.int .u64 (hK a.1), .int .u64 (lK a.1), .bool true, .bool (sK a.1), .string ⟨#[]⟩, .int .u64 (hK a.2), .int .u64 (lK a.2), .bool true, .bool (sK a.2), .string ⟨#[]⟩], .agg #[.int .u64 (hK b.1), .int .u64 (lK b.1), .bool true, .bool (sK b.1), .string ⟨#[]⟩, .int .u64 (hK b.2), .int .u64 (lK b.2), .bool true, .bool (sK b.2), .string ⟨#[]⟩]] w fun e w' => e = .returned (.bool x) ∧ Plus w w' := by
  have hq := c160 (hK a.1) (lK a.1) (sK a.1) (hK a.2) (lK a.2) (sK a.2) (hK b.1) (lK b.1) (sK b.1) (hK b.2) (lK b.2) (sK b.2) w
  rw [ltK a.2 b.1 oa.b ob.a] at hq
  try simp only [Bool.decide_and] at hx
  rw [hx] at hq
  exact hq
theorem k104 (a b : Nat × Nat) (oa : okR a) (ob : okR b) (x : Bool) (hx : decide (b.1 ≤ a.1 ∧ a.2 ≤ b.2) = x) (w : World) : Calls Tryz.prog 104 #[.agg #[.int .u64 (hK a.1), .int .u64 (lK a.1), .bool true, .bool (sK a.1), .string ⟨#[]⟩, .int .u64 (hK a.2), .int .u64 (lK a.2), .bool true, .bool (sK a.2), .string ⟨#[]⟩], .agg #[.int .u64 (hK b.1), .int .u64 (lK b.1), .bool true, .bool (sK b.1), .string ⟨#[]⟩, .int .u64 (hK b.2), .int .u64 (lK b.2), .bool true, .bool (sK b.2), .string ⟨#[]⟩]] w fun e w' => e = .returned (.bool x) ∧ Plus w w' := by
  have hq := c104 (hK a.1) (lK a.1) (sK a.1) (hK a.2) (lK a.2) (sK a.2) (hK b.1) (lK b.1) (sK b.1) (hK b.2) (lK b.2) (sK b.2) w
  rw [leK b.1 a.1 ob.a oa.a, leK a.2 b.2 oa.b ob.b] at hq
  try simp only [Bool.decide_and] at hx
  rw [hx] at hq
  exact hq
theorem k161 (a b : Nat × Nat) (oa : okR a) (ob : okR b) (x : Bool) (hx : decide (b.1 < a.1 ∧ a.2 < b.2) = x) (w : World) : Calls Tryz.prog 161 #[.agg #[.int .u64 (hK a.1), .int .u64 (lK a.1), .bool true, .bool (sK a.1), .string ⟨#[]⟩, .int .u64 (hK a.2), .int .u64 (lK a.2), .bool true, .bool (sK a.2), .string ⟨#[]⟩], .agg #[.int .u64 (hK b.1), .int .u64 (lK b.1), .bool true, .bool (sK b.1), .string ⟨#[]⟩, .int .u64 (hK b.2), .int .u64 (lK b.2), .bool true, .bool (sK b.2), .string ⟨#[]⟩]] w fun e w' => e = .returned (.bool x) ∧ Plus w w' := by
  have hq := c161 (hK a.1) (lK a.1) (sK a.1) (hK a.2) (lK a.2) (sK a.2) (hK b.1) (lK b.1) (sK b.1) (hK b.2) (lK b.2) (sK b.2) w
  rw [ltK b.1 a.1 ob.a oa.a, ltK a.2 b.2 oa.b ob.b] at hq
  try simp only [Bool.decide_and] at hx
  rw [hx] at hq
  exact hq
theorem k164 (a b : Nat × Nat) (oa : okR a) (ob : okR b) (x : Bool) (hx : decide (a.1 ≤ b.1 ∧ a.2 < b.2) = x) (w : World) : Calls Tryz.prog 164 #[.agg #[.int .u64 (hK a.1), .int .u64 (lK a.1), .bool true, .bool (sK a.1), .string ⟨#[]⟩, .int .u64 (hK a.2), .int .u64 (lK a.2), .bool true, .bool (sK a.2), .string ⟨#[]⟩], .agg #[.int .u64 (hK b.1), .int .u64 (lK b.1), .bool true, .bool (sK b.1), .string ⟨#[]⟩, .int .u64 (hK b.2), .int .u64 (lK b.2), .bool true, .bool (sK b.2), .string ⟨#[]⟩]] w fun e w' => e = .returned (.bool x) ∧ Plus w w' := by
  have hq := c164 (hK a.1) (lK a.1) (sK a.1) (hK a.2) (lK a.2) (sK a.2) (hK b.1) (lK b.1) (sK b.1) (hK b.2) (lK b.2) (sK b.2) w
  rw [leK a.1 b.1 oa.a ob.a, ltK a.2 b.2 oa.b ob.b] at hq
  try simp only [Bool.decide_and] at hx
  rw [hx] at hq
  exact hq
theorem k165 (a b : Nat × Nat) (oa : okR a) (ob : okR b) (x : Bool) (hx : decide (b.1 < a.1 ∧ b.2 ≤ a.2) = x) (w : World) : Calls Tryz.prog 165 #[.agg #[.int .u64 (hK a.1), .int .u64 (lK a.1), .bool true, .bool (sK a.1), .string ⟨#[]⟩, .int .u64 (hK a.2), .int .u64 (lK a.2), .bool true, .bool (sK a.2), .string ⟨#[]⟩], .agg #[.int .u64 (hK b.1), .int .u64 (lK b.1), .bool true, .bool (sK b.1), .string ⟨#[]⟩, .int .u64 (hK b.2), .int .u64 (lK b.2), .bool true, .bool (sK b.2), .string ⟨#[]⟩]] w fun e w' => e = .returned (.bool x) ∧ Plus w w' := by
  have hq := c165 (hK a.1) (lK a.1) (sK a.1) (hK a.2) (lK a.2) (sK a.2) (hK b.1) (lK b.1) (sK b.1) (hK b.2) (lK b.2) (sK b.2) w
  rw [ltK b.1 a.1 ob.a oa.a, leK b.2 a.2 ob.b oa.b] at hq
  try simp only [Bool.decide_and] at hx
  rw [hx] at hq
  exact hq
theorem lK_mod (k : Nat) (o : okK (k + 1)) (s : sK (k + 1) = false) : (lK (k + 1) % 4294967296 == 0) = false := by
  unfold sK at s; simp only [decide_eq_false_iff_not] at s
  unfold okK at o; unfold lK
  rw [if_neg s]
  simp only [beq_eq_false_iff_ne, ne_eq]
  omega
theorem hl_ne (k : Nat) (o : okK (k + 1)) (o' : okK k) (s : sK k = true) : ¬ (hK (k + 1) = 0 ∧ lK (k + 1) = 0) := by
  unfold sK at s; simp only [decide_eq_true_eq] at s
  unfold okK at o; unfold hK lK
  rw [if_pos (show 8589934592 ≤ k + 1 by omega), if_pos (show 8589934592 ≤ k + 1 by omega)]
  omega
theorem hK4 (k : Nat) (s : sK k = false) : hK k = 0 := by
  unfold sK at s; simp only [decide_eq_false_iff_not] at s
  unfold hK
  rw [if_neg s]
theorem k162s (k : Nat) (o : okK (k + 1)) (o' : okK k) (w : World) : Calls Tryz.prog 162 #[.agg #[.int .u64 (hK (k + 1)), .int .u64 (lK (k + 1)), .bool true, .bool (sK (k + 1)), .string ⟨#[]⟩]] w fun e w' => e = .returned (.agg #[.int .u64 (hK k), .int .u64 (lK k), .bool true, .bool (sK k), .string ⟨#[]⟩]) ∧ Plus w w' := by
  cases s : sK k
  · have s1 : sK (k + 1) = false := (sKs k o' o).trans s
    have hq := x162_4 (hK (k + 1)) (lK (k + 1)) (hK_in _ o) (lK_in _ o) (lK_mod k o s1) w
    rw [pv4K k o o' s] at hq
    rw [s1, hK4 k s]
    exact hq
  · have s1 : sK (k + 1) = true := (sKs k o' o).trans s
    have hq := c162_6 (hK (k + 1)) (lK (k + 1)) (hK_in _ o) (lK_in _ o) (by rw [bor_zero _ _ (hK_in _ o) (lK_in _ o)]; exact decide_eq_false (hl_ne k o o' s)) w
    rw [pvHK k o o' s, pvLK k o o' s] at hq
    rw [s1]
    exact hq
theorem k162 (j : Nat) (hj : 0 < j) (o : okK j) (o' : okK (j - 1)) (w : World) : Calls Tryz.prog 162 #[.agg #[.int .u64 (hK j), .int .u64 (lK j), .bool true, .bool (sK j), .string ⟨#[]⟩]] w fun e w' => e = .returned (.agg #[.int .u64 (hK (j - 1)), .int .u64 (lK (j - 1)), .bool true, .bool (sK (j - 1)), .string ⟨#[]⟩]) ∧ Plus w w' := by
  obtain ⟨k, rfl⟩ : ∃ k, j = k + 1 := ⟨j - 1, by omega⟩
  rw [Nat.add_sub_cancel] at *
  exact k162s k o o' w
end Go.Proofs.YtmoabfpdlbngeaaGreatDoor
end
