/-
  Part of the proofs on the laws of pub-addresssets: joined texts (T1, T2).
-/
import Derived.Test.YtmoabfpdlbngeaaGreatDoorVR3
section
namespace Go.Proofs.YtmoabfpdlbngeaaGreatDoor
open Go.RowKit
set_option maxHeartbeats 400000
set_option linter.unusedVariables false
set_option linter.unusedSimpArgs false
theorem memR_empty {m : Nat} {h : Nat → Nat × Nat} (C : CanonR m h) : (m = 0 ↔ ∀ k, ¬ MemR m h k) := by
  constructor
  · rintro rfl k ⟨i, q, _⟩
    omega
  · intro q
    rcases Nat.eq_zero_or_pos m with e | e
    · exact e
    · exact absurd ⟨0, e, Nat.le_refl _, (C.ok 0 e).le⟩ (q (h 0).1)
theorem memR_one (r : Nat × Nat) (k : Nat) : MemR 1 (fun _ => r) k ↔ (r.1 ≤ k ∧ k ≤ r.2) := ⟨fun ⟨i, _, q⟩ => q, fun q => ⟨0, by omega, q⟩⟩
theorem canon_one (r : Nat × Nat) (o : okR r) : CanonR 1 (fun _ => r) := ⟨fun i hi => o, fun i hi => by omega⟩
/-- spec.Four. -/
theorem c16 (v0 : Value) (m : Nat) (h : Nat → Nat × Nat) (w : World) (H : Rd layQ w v0 m h) : Calls Tryz.prog 16 #[v0] w (fun e w' => e = .returned (.bool (decide (0 < m) && !(sK (h 0).1))) ∧ Plus w w') := by
  obtain ⟨p, c, rfl, hmc, hr⟩ := H
  by_cases hm : 0 < m
  · obtain ⟨G, o, rfl, hrow⟩ := hr hm
    have ra := hrow 0 hm
    rw [Nat.zero_mul, Nat.add_zero] at ra
    obtain ⟨ca0, ca1, ca2, ca3, ca4, ca5⟩ := rq_cells ra
    have hG : G < w.heap.size := World.block_lt_of_cell? _ _ ca0
    have z : decide ((0 : Int) < (m : Int)) = true := decide_eq_true (by omega)
    have z2 : decide (0 < m) = true := decide_eq_true hm
    have zz : (0 : Int) < (m : Int) := by omega
    clear hrow ra hr
    go_enter Tryz.func16, Tryz.ntmps16

    go_wp2_with fail
    go_ret
    exact ⟨by simp [hm], by repeat (first | exact Plus.refl _ | refine Plus.alloc ?_ _ | refine Plus.plus ?_ _ _ | refine Plus.drew ?_ | refine Plus.drewN ?_ _)⟩
  · obtain rfl : m = 0 := by omega
    go_enter Tryz.func16, Tryz.ntmps16

    go_wp2_with fail
    go_ret
    exact ⟨by simp, by repeat (first | exact Plus.refl _ | refine Plus.alloc ?_ _ | refine Plus.plus ?_ _ _ | refine Plus.drew ?_ | refine Plus.drewN ?_ _)⟩
set_option maxHeartbeats 2000000 in
/-- spec.Has. -/
theorem c20 (v0 : Value) (m : Nat) (h : Nat → Nat × Nat) (hm : m ≤ 20000000) (r : Nat × Nat) (o : okR r) (w : World) (H : Rd layQ w v0 m h) (ok : ∀ i, i < m → okR (h i)) :
    Calls Tryz.prog 20 #[v0, .agg #[.bool (sK r.1), .int .u64 (hK r.1), .int .u64 (mK r.1), .bool (sK r.2), .int .u64 (hK r.2), .int .u64 (mK r.2)]] w (BoolP w (∀ k, r.1 ≤ k ∧ k ≤ r.2 → MemR m h k)) := by
  obtain ⟨p, c, rfl, q1, q2⟩ := H
  have R1 : Hid (Rd layQ w (.slice p m c) m h) := ⟨p, c, rfl, q1, q2⟩
  have HO : Hid _ := ok
  have OR : Hid _ := o
  clear q2 ok o
  go_enter Tryz.func20, Tryz.ntmps20

  go_wp2_with fail
  refine (c37 _ 1 (fun _ => r) _ m h (by omega) _ (Rd.newAt _ r (by simp) rfl) (canon_one r OR.out) (Rd.chg0 R1.out (by (repeat (with_reducible first | exact Chg.refl _ _ | refine Chg.plus ?_ _ _ | refine Chg.alloc ?_ _ | refine Chg.drew ?_)))) HO.out).mono ?_
  rintro e w1 ⟨v, m1, h1, rfl, Z⟩
  obtain ⟨z1, z2, z3, z4, z5⟩ := Z.out
  obtain ⟨p1, c1, rfl, q3, q4⟩ := z2
  have HC : Hid (Chg (fun _ => False) w w1) := Chg.trans (by (repeat (with_reducible first | exact Chg.refl _ _ | refine Chg.plus ?_ _ _ | refine Chg.alloc ?_ _ | refine Chg.drew ?_))) z1
  have HQ : Hid (m1 = 0 ↔ ∀ k, r.1 ≤ k ∧ k ≤ r.2 → MemR m h k) := by
    rw [Hid, memR_empty z3]
    constructor
    · intro q k hk
      refine Classical.byContradiction fun n => q k ((z4 k).2 ⟨(memR_one r k).2 hk, n⟩)
    · intro q k hk
      have := (z4 k).1 hk
      exact this.2 (q k ((memR_one r k).1 this.1))
  clear Z z1 z3 z4 q4
  go_wp2_with fail
  go_ret
  exact ⟨_, rfl, HC.out, by rw [← HQ.out]; simp⟩
end Go.Proofs.YtmoabfpdlbngeaaGreatDoor
end

section
namespace Go.Proofs.YtmoabfpdlbngeaaGreatDoor
open Go.RowKit
set_option maxHeartbeats 400000
set_option linter.unusedVariables false
set_option linter.unusedSimpArgs false
/-- A prefix of the chains of the first i ranges. -/
def InCh (f : Nat → Nat × Nat) (i : Nat) (x : Nat × Nat) : Prop := ∃ j, j < i ∧ ∃ m g, ChV (vK (f j).1) (vK (f j).2) m g ∧ ∃ l, l < m ∧ pfV (sK (f j).1) (g l) = x
theorem InCh.zero {f : Nat → Nat × Nat} {x : Nat × Nat} : ¬ InCh f 0 x := fun ⟨j, q, _⟩ => by omega
theorem InCh.succ {f : Nat → Nat × Nat} {i : Nat} {x : Nat × Nat} {m : Nat} {g : Nat → Nat × Nat} (C : ChV (vK (f i).1) (vK (f i).2) m g) : InCh f (i + 1) x ↔ (InCh f i x ∨ ∃ l, l < m ∧ pfV (sK (f i).1) (g l) = x) := by
  constructor
  · rintro ⟨j, hj, m', g', C', l, hl, e⟩
    by_cases q : j < i
    · exact .inl ⟨j, q, m', g', C', l, hl, e⟩
    · obtain rfl : j = i := by omega
      obtain ⟨e1, e2⟩ := C'.uniq C
      subst e1
      exact .inr ⟨l, hl, by rw [← e2 l hl]; exact e⟩
  · rintro (⟨j, hj, q⟩ | ⟨l, hl, e⟩)
    · exact ⟨j, by omega, q⟩
    · exact ⟨i, by omega, m, g, C, l, hl, e⟩
theorem ChL.mem {f : Nat → Nat × Nat} {i M : Nat} {F : Nat → Nat × Nat} (H : ChL f i M F) (x : Nat × Nat) : (∃ j, j < M ∧ F j = x) ↔ InCh f i x := by
  induction H with
  | nil F => exact ⟨fun ⟨j, q, _⟩ => by omega, fun q => absurd q InCh.zero⟩
  | snoc H C ih =>
    rename_i i M m F g
    rw [InCh.succ C, ← ih]
    constructor
    · rintro ⟨j, hj, e⟩
      unfold appF at e
      by_cases q : j < M
      · rw [if_pos q] at e; exact .inl ⟨j, q, e⟩
      · rw [if_neg q] at e; exact .inr ⟨j - M, by omega, e⟩
    · rintro (⟨j, hj, e⟩ | ⟨l, hl, e⟩)
      · exact ⟨j, by omega, by unfold appF; rw [if_pos hj]; exact e⟩
      · exact ⟨M + l, by omega, by unfold appF; rw [if_neg (by omega), show M + l - M = l by omega]; exact e⟩
/-- The best prefix so far, behind i ranges and j prefixes of the next one. -/
def BfI (f : Nat → Nat × Nat) (i : Nat) (g : Nat → Nat × Nat) (j bits : Nat) : Option (Nat × Nat) → Prop
  | none => (∀ x, InCh f i x → bits < x.2) ∧ ∀ l, l < j → bits < (pfV (sK (f i).1) (g l)).2
  | some x => (InCh f i x ∨ ∃ l, l < j ∧ pfV (sK (f i).1) (g l) = x) ∧ x.2 ≤ bits
theorem BfI.start (f : Nat → Nat × Nat) (g : Nat → Nat × Nat) (bits : Nat) : BfI f 0 g 0 bits none := ⟨fun x q => absurd q InCh.zero, fun l q => by omega⟩
theorem BfI.into {f : Nat → Nat × Nat} {i bits : Nat} {g : Nat → Nat × Nat} {o : Option (Nat × Nat)} (H : BfI f i g 0 bits o) (g' : Nat → Nat × Nat) : BfI f i g' 0 bits o := by
  cases o with
  | none => exact ⟨H.1, fun l q => by omega⟩
  | some x =>
    refine ⟨?_, H.2⟩
    rcases H.1 with q | ⟨l, q, _⟩
    · exact .inl q
    · omega
theorem BfI.skip {f : Nat → Nat × Nat} {i j bits : Nat} {g : Nat → Nat × Nat} {o : Option (Nat × Nat)} (H : BfI f i g j bits o) (h : o = none → bits < (pfV (sK (f i).1) (g j)).2) : BfI f i g (j + 1) bits o := by
  cases o with
  | none =>
    refine ⟨H.1, fun l q => ?_⟩
    by_cases e : l = j
    · subst e; exact h rfl
    · exact H.2 l (by omega)
  | some x =>
    refine ⟨?_, H.2⟩
    rcases H.1 with q | ⟨l, q, e⟩
    · exact .inl q
    · exact .inr ⟨l, by omega, e⟩
theorem BfI.take {f : Nat → Nat × Nat} {i j bits : Nat} {g : Nat → Nat × Nat} (h : (pfV (sK (f i).1) (g j)).2 ≤ bits) : BfI f i g (j + 1) bits (some (pfV (sK (f i).1) (g j))) := ⟨.inr ⟨j, by omega, rfl⟩, h⟩
/-- Behind all prefixes of a range. -/
theorem BfI.next {f : Nat → Nat × Nat} {i m bits : Nat} {g : Nat → Nat × Nat} {o : Option (Nat × Nat)} (C : ChV (vK (f i).1) (vK (f i).2) m g) (H : BfI f i g m bits o) (g' : Nat → Nat × Nat) : BfI f (i + 1) g' 0 bits o := by
  cases o with
  | none =>
    refine ⟨fun x q => ?_, fun l q => by omega⟩
    rcases (InCh.succ C).1 q with q | ⟨l, q, e⟩
    · exact H.1 x q
    · rw [← e]; exact H.2 l q
  | some x => exact ⟨.inl ((InCh.succ C).2 H.1), H.2⟩
/-- Behind a break. -/
theorem BfI.brk {f : Nat → Nat × Nat} {i j m bits : Nat} {g : Nat → Nat × Nat} {x : Nat × Nat} (C : ChV (vK (f i).1) (vK (f i).2) m g) (hj : j ≤ m) (H : BfI f i g j bits (some x)) (g' : Nat → Nat × Nat) : BfI f (i + 1) g' 0 bits (some x) := by
  refine ⟨.inl ((InCh.succ C).2 ?_), H.2⟩
  rcases H.1 with q | ⟨l, q, e⟩
  · exact .inl q
  · exact .inr ⟨l, by omega, e⟩
def bfL : Option (Nat × Nat) → List Value
  | none => [.int .u64 0, .int .u64 0, .bool false, .bool false, .string ⟨#[]⟩, .int .u8 0]
  | some a => pfC a
theorem c43z (w : World) : Calls Tryz.prog 43 #[.agg #[.int .u64 0, .int .u64 0, .bool false, .bool false, .string ⟨#[]⟩, .int .u8 0]] w fun e w' => e = .returned (.agg #[.int .u64 0, .int .u64 0, .bool false, .bool false, .string ⟨#[]⟩]) ∧ Plus w w' := by
  go_enter Tryz.func43, Tryz.ntmps43

  go_wp2_with fail
  exact bodyPost_ret (v := .agg #[.int .u64 0, .int .u64 0, .bool false, .bool false, .string ⟨#[]⟩]) (by simp [results, Tryz.results43, go_sem, IntWalk.iteOmega, ↓IntWalk.iteOmega]) rfl ⟨rfl, by repeat (first | exact Plus.refl _ | refine Plus.alloc ?_ _ | refine Plus.plus ?_ _ _ | refine Plus.drew ?_ | refine Plus.drewN ?_ _)⟩
theorem c89z (w : World) : Calls Tryz.prog 89 #[.agg #[.int .u64 0, .int .u64 0, .bool false, .bool false, .string ⟨#[]⟩]] w fun e w' => e = .returned (.bool false) ∧ Plus w w' := by
  go_enter Tryz.func89, Tryz.ntmps89
  go_wp2_with fail
  refine wp_region_plus (by kernel_rfl) (by kernel_rfl) ?_
  repeat (go_big_quiet_step (first | (go_at_call 127; exact Calls.plus_of (c127 _))))
  refine wpQuiet_nil ?_
  intro _ hq
  obtain ⟨⟨dq, oq⟩, rfl⟩ := hq
  go_wp2_with fail
  go_ret
  exact ⟨rfl, by repeat (first | exact Plus.refl _ | refine Plus.alloc ?_ _ | refine Plus.plus ?_ _ _ | refine Plus.drew ?_ | refine Plus.drewN ?_ _)⟩
end Go.Proofs.YtmoabfpdlbngeaaGreatDoor
end
