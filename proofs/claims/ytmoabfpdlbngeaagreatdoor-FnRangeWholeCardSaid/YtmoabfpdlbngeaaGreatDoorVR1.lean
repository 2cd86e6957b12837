/-
  Part of the proofs on the laws of pub-addresssets: joined texts (R1, R2).
-/
import Derived.Test.YtmoabfpdlbngeaaGreatDoorVQ3
import Derived.Test.YtmoabfpdlbngeaaGreatDoorVQ6
section
/- Chains built one block behind the other, each as great as can be; and what the spec's search for a block means. -/
namespace Go.Proofs.YtmoabfpdlbngeaaGreatDoor
open Go.RowKit
set_option maxHeartbeats 400000
set_option linter.unusedVariables false
set_option linter.unusedSimpArgs false
section
variable {A B m : Nat} {f : Nat → Nat × Nat}
/-- A chain so far. -/
structure ChP (A B m : Nat) (f : Nat → Nat × Nat) : Prop where
  fst : 0 < m → (f 0).1 = A
  al : ∀ i, i < m → (f i).1 % 2 ^ (f i).2 = 0
  fit : ∀ i, i < m → (f i).1 + 2 ^ (f i).2 ≤ B + 1
  top : ∀ i, i < m → ∀ q, (f i).2 < q → (f i).1 % 2 ^ q = 0 → ¬ (f i).1 + 2 ^ q ≤ B + 1
  nxt : ∀ i, i + 1 < m → (f (i + 1)).1 = (f i).1 + 2 ^ (f i).2
def curP (A m : Nat) (f : Nat → Nat × Nat) : Nat := if m = 0 then A else (f (m - 1)).1 + 2 ^ (f (m - 1)).2
def snP (m : Nat) (f : Nat → Nat × Nat) (x : Nat × Nat) : Nat → Nat × Nat := fun j => if j < m then f j else x
theorem curP_snP (A : Nat) (m : Nat) (f : Nat → Nat × Nat) (x : Nat × Nat) : curP A (m + 1) (snP m f x) = x.1 + 2 ^ x.2 := by
  unfold curP snP
  rw [if_neg (by omega), show m + 1 - 1 = m by omega, if_neg (by omega)]
theorem ChP.nil : ChP A B 0 f := ⟨fun h => by omega, fun i h => by omega, fun i h => by omega, fun i h => by omega, fun i h => by omega⟩
theorem ChP.snoc (C : ChP A B m f) {q : Nat} (h1 : curP A m f % 2 ^ q = 0) (h2 : curP A m f + 2 ^ q ≤ B + 1) (h3 : ∀ p, q < p → curP A m f % 2 ^ p = 0 → ¬ curP A m f + 2 ^ p ≤ B + 1) : ChP A B (m + 1) (snP m f (curP A m f, q)) := by
  refine ⟨fun _ => ?_, fun i hi => ?_, fun i hi => ?_, fun i hi => ?_, fun i hi => ?_⟩
  · by_cases e : 0 < m
    · simp only [snP, if_pos e]; exact C.fst e
    · simp only [snP, if_neg e]; unfold curP; rw [if_pos (by omega)]
  · by_cases e : i < m
    · simp only [snP, if_pos e]; exact C.al i e
    · simp only [snP, if_neg e]; exact h1
  · by_cases e : i < m
    · simp only [snP, if_pos e]; exact C.fit i e
    · simp only [snP, if_neg e]; exact h2
  · by_cases e : i < m
    · simp only [snP, if_pos e]; exact C.top i e
    · simp only [snP, if_neg e]; exact h3
  · have e : i < m := by omega
    by_cases e2 : i + 1 < m
    · simp only [snP, if_pos e, if_pos e2]; exact C.nxt i e2
    · simp only [snP, if_pos e, if_neg e2]
      have : i = m - 1 := by omega
      subst this
      unfold curP
      rw [if_neg (by omega)]
theorem ChP.full (C : ChP A B m f) (hm : 0 < m) (h : curP A m f = B + 1) : ChV A B m f :=
  ⟨hm, C.fst hm, C.al, C.fit, C.top, C.nxt, by unfold curP at h; rwa [if_neg (by omega)] at h⟩
theorem ChV.ex (q : Nat) : ∀ A B : Nat, A ≤ B → A / 2 ^ q = B / 2 ^ q → ∃ m f, ChV A B m f ∧ m ≤ bdV q A B := by
  induction q with
  | zero =>
    intro A B h e
    have : A = B := by simpa using e
    subst this
    exact ⟨1, _, ChV.one (q := 0) (by simp [Nat.mod_one]) (by simp), by unfold bdV; omega⟩
  | succ q ih =>
    intro A B h e
    by_cases e2 : A / 2 ^ q = B / 2 ^ q
    · obtain ⟨m, f, C, hm⟩ := ih A B h e2
      exact ⟨m, f, C, Nat.le_trans hm (bdV_mono (by omega))⟩
    · obtain ⟨u1, u2, u3, u4, u5, u6⟩ := halves h e e2
      generalize hS : B / 2 ^ (q + 1) * 2 ^ (q + 1) = S at *
      generalize hM : B / 2 ^ q * 2 ^ q = M at *
      have hMz : M % 2 ^ q = 0 := by rw [← hM]; exact Nat.mul_mod_left ..
      by_cases e3 : A = S ∧ B + 1 = S + 2 ^ (q + 1)
      · obtain ⟨rfl, e4⟩ := e3
        exact ⟨1, _, ChV.one u1 e4.symm, by unfold bdV; omega⟩
      · have hp := Nat.two_pow_pos q
        have hd1 : A / 2 ^ q = (M - 1) / 2 ^ q := by
          have k1 : A / 2 ^ q * 2 ^ q ≤ A := Nat.div_mul_le_self ..
          have hSq : S % 2 ^ q = 0 := mod_pow u1 (by omega)
          have ds := Nat.div_add_mod S (2 ^ q)
          rw [hSq, Nat.add_zero, Nat.mul_comm] at ds
          have x1 : A / 2 ^ q = S / 2 ^ q := by
            rw [Nat.div_eq_iff hp]
            omega
          have x2 : (M - 1) / 2 ^ q = S / 2 ^ q := by
            rw [Nat.div_eq_iff hp]
            omega
          rw [x1, x2]
        have hd2 : M / 2 ^ q = B / 2 ^ q := by
          rw [← hM, Nat.mul_div_cancel _ hp]
        obtain ⟨m1, f1, C1, b1⟩ := ih A (M - 1) (by omega) hd1
        obtain ⟨m2, f2, C2, b2⟩ := ih M B (by omega) hd2
        refine ⟨_, _, ChV.join (by omega) C1 C2 u1 u2 u3 u4 u5 u6 e3, bdV_join (by omega) hMz b1 b2 ?_⟩
        rintro ⟨z1, z2⟩
        refine e3 ⟨?_, ?_⟩
        · rcases Nat.lt_or_ge S A with l | l
          · have := mult_gap u1 z1 l
            omega
          · omega
        · have z3 : (S + 2 ^ (q + 1)) % 2 ^ (q + 1) = 0 := by rw [Nat.add_mod_right]; exact u1
          rcases Nat.lt_or_ge (B + 1) (S + 2 ^ (q + 1)) with l | l
          · have := mult_gap z2 z3 l
            omega
          · omega
theorem ChP.same {m' : Nat} {f' : Nat → Nat × Nat} (C : ChP A B m f) (C' : ChV A B m' f') (i : Nat) : i < m → i < m' → f i = f' i := by
  induction i with
  | zero =>
    intro h h'
    have e : (f 0).1 = (f' 0).1 := (C.fst h).trans C'.fst.symm
    refine Prod.ext e ?_
    rcases Nat.lt_trichotomy (f 0).2 (f' 0).2 with l | l | l
    · exact absurd (by rw [e]; exact C'.fit 0 h') (C.top 0 h _ l (by rw [e]; exact C'.al 0 h'))
    · exact l
    · exact absurd (by rw [← e]; exact C.fit 0 h) (C'.top 0 h' _ l (by rw [← e]; exact C.al 0 h))
  | succ i ih =>
    intro h h'
    have e0 := ih (by omega) (by omega)
    have e : (f (i + 1)).1 = (f' (i + 1)).1 := by rw [C.nxt i h, C'.nxt i h', e0]
    refine Prod.ext e ?_
    rcases Nat.lt_trichotomy (f (i + 1)).2 (f' (i + 1)).2 with l | l | l
    · exact absurd (by rw [e]; exact C'.fit _ h') (C.top _ h _ l (by rw [e]; exact C'.al _ h'))
    · exact l
    · exact absurd (by rw [← e]; exact C.fit _ h) (C'.top _ h' _ l (by rw [← e]; exact C.al _ h))
theorem ChP.le {m' : Nat} {f' : Nat → Nat × Nat} (C : ChP A B m f) (C' : ChV A B m' f') : m ≤ m' := by
  refine Nat.le_of_not_lt fun h => ?_
  have p := C'.pos
  have e := C.same C' (m' - 1) (by omega) (by omega)
  have l := C'.lst
  have n := C.nxt (m' - 1) (by omega)
  have ft := C.fit (m' - 1 + 1) (by omega)
  have := Nat.two_pow_pos (f (m' - 1 + 1)).2
  rw [e] at n
  omega
theorem ChP.le257 (C : ChP A B m f) (h : A ≤ B) (hB : B < 2 ^ 128) : m ≤ 257 := by
  obtain ⟨m', f', D, hm⟩ := ChV.ex 128 A B h (by rw [Nat.div_eq_of_lt (by omega), Nat.div_eq_of_lt hB])
  have := C.le D
  have := bdV_le 128 A B
  omega
end
/-- A block of the search: the prefix of n bits begins at c and lies within. -/
def goodB (c b n : Nat) : Prop := (pfR c n).1 = c ∧ (pfR c n).2 ≤ b
theorem vK_diff (c b : Nat) (o : okR (c, b)) : vK b = vK c + (b - c) := by
  have s := o.s; have l := o.le
  have l' : c ≤ b := l
  by_cases p : 8589934592 ≤ c
  · have e1 := vK6 c p
    have e2 := vK6 b (by omega)
    omega
  · have p2 : ¬ 8589934592 ≤ b := by
      have e : sK c = false := decide_eq_false p
      have s' : sK c = sK b := s
      rw [e] at s'
      exact of_decide_eq_false s'.symm
    have e1 := vK4 c p
    have e2 := vK4 b p2
    omega
theorem pfR_at (c n : Nat) (h : (pfR c n).1 = c) : (pfR c n).2 = c + (2 ^ (lenK c - n) - 1) := by
  show pfA c n + (roomK c n - 1) = _
  have h' : pfA c n = c := h
  rw [h']; rfl
theorem al_iff (c n : Nat) (hn : n ≤ lenK c) : (pfR c n).1 = c ↔ vK c % 2 ^ (lenK c - n) = 0 := by
  show pfA c n = c ↔ _
  have hp := Nat.two_pow_pos (lenK c - n)
  have key : ∀ y : Nat, y / 2 ^ (lenK c - n) * 2 ^ (lenK c - n) = y ↔ y % 2 ^ (lenK c - n) = 0 := fun y => by
    have := Nat.div_add_mod y (2 ^ (lenK c - n))
    rw [Nat.mul_comm] at this
    omega
  unfold pfA
  rw [show roomK c n = 2 ^ (lenK c - n) from rfl]
  by_cases p : 8589934592 ≤ c
  · have eb : baseK c = 8589934592 := by unfold baseK; rw [if_pos p]
    have e1 := vK6 c p
    rw [eb, show c - 8589934592 = vK c by omega, ← key]
    omega
  · have eb : baseK c = 0 := by unfold baseK; rw [if_neg p]
    have el : lenK c = 32 := by unfold lenK; rw [if_neg p]
    rw [eb, vK4 c p, Nat.sub_zero, Nat.zero_add, key, el]
    rw [el] at hn
    have : 281470681743360 = 65535 * 2 ^ n * 2 ^ (32 - n) := by
      rw [Nat.mul_assoc, ← Nat.pow_add, show n + (32 - n) = 32 by omega]
    rw [this, Nat.add_comm, Nat.add_mul_mod_self_right]
theorem good_iff (c b n : Nat) (o : okR (c, b)) (hn : n ≤ lenK c) : goodB c b n ↔ vK c % 2 ^ (lenK c - n) = 0 ∧ vK c + 2 ^ (lenK c - n) ≤ vK b + 1 := by
  have hp := Nat.two_pow_pos (lenK c - n)
  have d := vK_diff c b o
  have l : c ≤ b := o.le
  unfold goodB
  rw [← al_iff c n hn]
  refine and_congr_right fun h => ?_
  rw [pfR_at c n h]
  omega
theorem good_top (c b n : Nat) (o : okR (c, b)) (hn : n ≤ lenK c) (h : ∀ n', n' < n → ¬ goodB c b n') (p : Nat) (hp : lenK c - n < p) (hz : vK c % 2 ^ p = 0) : ¬ vK c + 2 ^ p ≤ vK b + 1 := by
  intro hf
  by_cases e : p ≤ lenK c
  · refine h (lenK c - p) (by omega) ((good_iff c b (lenK c - p) o (by omega)).2 ?_)
    rw [show lenK c - (lenK c - p) = p by omega]
    exact ⟨hz, hf⟩
  · obtain ⟨r1, r2, r3⟩ := vK_range (c, b) o
    have r1' : vK c ≤ vK b := r1
    have r2' : vK b < 2 ^ 128 := r2
    by_cases s : 8589934592 ≤ c
    · have el : lenK c = 128 := by unfold lenK; rw [if_pos s]
      have : 2 ^ 129 ≤ 2 ^ p := Nat.pow_le_pow_right (by omega) (by omega)
      have e9 : (2 : Nat) ^ 129 = 2 ^ 128 + 2 ^ 128 := by decide
      omega
    · have el : lenK c = 32 := by unfold lenK; rw [if_neg s]
      have e1 : sK c = false := decide_eq_false s
      obtain ⟨q1, q2⟩ := r3 e1
      have q1' : 281470681743360 ≤ vK c := q1
      have q2' : vK b < 281474976710656 := q2
      have : 2 ^ 33 ≤ 2 ^ p := Nat.pow_le_pow_right (by omega) (by omega)
      have e9 : (2 : Nat) ^ 33 = 8589934592 := by decide
      omega
theorem good_len (c b : Nat) (o : okR (c, b)) : goodB c b (lenK c) := by
  have l : c ≤ b := o.le
  have d := vK_diff c b o
  refine (good_iff c b _ o (Nat.le_refl _)).2 ?_
  rw [Nat.sub_self]
  simp only [Nat.pow_zero, Nat.mod_one, true_and]
  omega
theorem pfV_back (c n : Nat) (o : okK c) (hn : n ≤ lenK c) : pfV (sK c) (vK c, lenK c - n) = (c, n) := by
  by_cases s : 8589934592 ≤ c
  · have e1 : sK c = true := decide_eq_true s
    have el : lenK c = 128 := by unfold lenK; rw [if_pos s]
    have ev := vK6 c s
    rw [e1, el, pfV6]
    exact Prod.ext (by show _ = c; omega) (by show _ = n; omega)
  · have e1 : sK c = false := decide_eq_false s
    have el : lenK c = 32 := by unfold lenK; rw [if_neg s]
    have ev := vK4 c s
    unfold okK at o
    rw [e1, el, pfV4, ev]
    exact Prod.ext (by show _ = c; omega) (by show _ = n; omega)
/-- Behind a block that does not end the range: the next one begins. -/
theorem good_next (c b n : Nat) (o : okR (c, b)) (hn : n ≤ lenK c) (h : goodB c b n) (hne : (pfR c n).2 ≠ b) : okR ((pfR c n).2 + 1, b) ∧ okK (pfR c n).2 ∧ vK ((pfR c n).2 + 1) = vK c + 2 ^ (lenK c - n) ∧ sK ((pfR c n).2 + 1) = sK c := by
  have hp := Nat.two_pow_pos (lenK c - n)
  have a := o.a; have b' := o.b; have s := o.s; have l := o.le
  have a' : okK c := a
  have b'' : okK b := b'
  have s' : sK c = sK b := s
  have l' : c ≤ b := l
  obtain ⟨h1, h2⟩ := h
  have e := pfR_at c n h1
  generalize (pfR c n).2 = x at *
  have hs : sK (x + 1) = sK c := by
    by_cases p : 8589934592 ≤ c
    · rw [show sK c = true from decide_eq_true p]; exact decide_eq_true (by omega)
    · have e1 : sK c = false := decide_eq_false p
      rw [e1] at s' ⊢
      have : ¬ 8589934592 ≤ b := of_decide_eq_false s'.symm
      exact decide_eq_false (by omega)
  have okb : okK (x + 1) := by
    unfold okK at *
    have : sK c = sK b := s'
    unfold sK at this
    simp only [decide_eq_decide] at this
    omega
  have okx : okK x := by
    unfold okK at *
    have : sK c = sK b := s'
    unfold sK at this
    simp only [decide_eq_decide] at this
    omega
  refine ⟨⟨okb, b', hs.trans s', by show x + 1 ≤ b; omega⟩, okx, ?_, hs⟩
  have d := vK_diff c (x + 1) ⟨a, okb, hs.symm, by show c ≤ x + 1; omega⟩
  omega
theorem good_end (c b n : Nat) (o : okR (c, b)) (h : goodB c b n) (he : (pfR c n).2 = b) : vK c + 2 ^ (lenK c - n) = vK b + 1 := by
  have hp := Nat.two_pow_pos (lenK c - n)
  have l : c ≤ b := o.le
  have d := vK_diff c b o
  have e := pfR_at c n h.1
  omega
end Go.Proofs.YtmoabfpdlbngeaaGreatDoor
end

section
namespace Go.Proofs.YtmoabfpdlbngeaaGreatDoor
open Go.RowKit
set_option maxHeartbeats 400000
set_option linter.unusedVariables false
set_option linter.unusedSimpArgs false
theorem pi_cells4 {W : World} {g o : Nat} {a : Nat × Nat} (h : W.rangeAt g o (piL a)) : W.cell? ⟨g, o, none⟩ = some (.bool (sK a.1)) ∧ W.cell? ⟨g, o + 1, none⟩ = some (.int .u64 (hK a.1)) ∧ W.cell? ⟨g, o + 2, none⟩ = some (.int .u64 (mK a.1)) ∧ W.cell? ⟨g, o + 3, none⟩ = some (.int .i64 ((a.2 : Nat) : Int)) := ⟨h 0 _ rfl, h 1 _ rfl, h 2 _ rfl, h 3 _ rfl⟩
theorem neq47 (a : Nat × Nat) (w : World) : (binOp .neq 47 (.agg #[.bool (sK a.1), .int .u64 (hK a.1), .int .u64 (mK a.1), .int .i64 ((a.2 : Nat) : Int)]) (.agg #[.bool (sK a.1), .int .u64 (hK a.1), .int .u64 (mK a.1), .int .i64 ((a.2 : Nat) : Int)])).run Tryz.prog w = .ok (.bool false) w := by
  simp [go_sem]
set_option maxHeartbeats 2000000 in
/-- Two equal lists of prefixes are told equal. -/
theorem c12 (v v' : Value) (m : Nat) (h h' : Nat → Nat × Nat) (hm : m ≤ 10000000000) (w : World) (K : Rd layI w v m h) (K' : Rd layI w v' m h') (he : ∀ i, i < m → h i = h' i) :
    Calls Tryz.prog 12 #[v, v'] w (TrueP w) := by
  obtain ⟨p, c, rfl, l1, r1⟩ := K
  obtain ⟨p', c', rfl, l2, r2⟩ := K'
  have HK : Hid _ := r1
  have HK' : Hid _ := r2
  have HE : Hid _ := he
  clear r1 r2 he
  have q1 : ((m : Int) != (m : Int)) = false := by simp
  go_enter Tryz.func12, Tryz.ntmps12

  go_wp2_with fail
  go_loopw [13] (fun t13 wr => ∃ i : Nat, t13 = .int .i64 i ∧ i ≤ m ∧ Hid (Chg (fun _ => False) w wr))
    (fun t13 _ => m - (intOf t13).toNat)
  case atStart => exact ⟨0, rfl, Nat.zero_le _, Chg.refl _ _⟩
  case round =>
    obtain ⟨i, rfl, hi, X⟩ := hrel
    by_cases hlt : i < m
    · obtain ⟨G, o, rfl, ra⟩ := HK.out (by omega)
      obtain ⟨G', o', rfl, rb⟩ := HK'.out (by omega)
      have ra' : wr.rangeAt G (o + i * 4) (piL (h i)) := rangeAt_chg X.out (ra i hlt) id
      have rb' : wr.rangeAt G' (o' + i * 4) (piL (h' i)) := rangeAt_chg X.out (rb i hlt) id
      rw [← HE.out i hlt] at rb'
      obtain ⟨ca0, ca1, ca2, ca3⟩ := pi_cells4 ra'
      obtain ⟨cb0, cb1, cb2, cb3⟩ := pi_cells4 rb'
      have hG : G < wr.heap.size := World.block_lt_of_cell? _ _ ca0
      have hG' : G' < wr.heap.size := World.block_lt_of_cell? _ _ cb0
      have zi : (i : Int) < (m : Int) := by omega
      have zi0 : (0 : Int) ≤ (i : Int) := by omega
      clear ra rb ra' rb'
      have hne := fun w => neq47 (h i) w
      go_wp2_with fail
      refine wp_region_plus (by kernel_rfl) (by kernel_rfl) ?_
      repeat (go_big_quiet_step (fail))
      refine wpQuiet_nil ?_
      intro _ hq
      obtain ⟨⟨dq, oq⟩, rfl⟩ := hq
      go_wp2_with fail
      go_roundw
      case rel => exact ⟨i + 1, by go_num, by omega, X.out.plus _ _⟩
      case measure => simp [intOf]; omega
    · obtain rfl : i = m := by omega
      go_wp2_with fail
      go_ret
      exact ⟨rfl, X.out⟩
end Go.Proofs.YtmoabfpdlbngeaaGreatDoor
end
