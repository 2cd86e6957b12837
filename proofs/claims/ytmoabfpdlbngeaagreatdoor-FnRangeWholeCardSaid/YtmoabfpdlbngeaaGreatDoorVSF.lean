/-
  Part of the proofs on the laws of pub-addresssets: joined texts (SF, SG).
-/
import Derived.Test.YtmoabfpdlbngeaaGreatDoorVSE
section
namespace Go.Proofs.YtmoabfpdlbngeaaGreatDoor
open Go.RowKit
set_option maxHeartbeats 400000
set_option linter.unusedVariables false
set_option linter.unusedSimpArgs false
/-- What is handed back, to be read. -/
def ReQ (w w' : World) (v : Value) (m : Nat) (h : Nat → Nat × Nat) (S : Nat → Prop) (N : Nat) : Prop :=
  Chg (fun _ => False) w w' ∧ Rd layQ w' v m h ∧ CanonR m h ∧ (∀ k, MemR m h k ↔ S k) ∧ m ≤ N
theorem ResQ.re {w w' : World} {v : Value} {m : Nat} {h : Nat → Nat × Nat} {S : Nat → Prop} {N : Nat} (H : ResQ w w' v m h S N) : ReQ w w' v m h S N := ⟨H.1, H.2.1.rd, H.2.2.2.1, H.2.2.2.2.1, H.2.2.2.2.2⟩
theorem c38 (w : World) : Calls Tryz.prog 38 #[] w fun e w' => ∃ v, e = .returned v ∧ Hid (ResQ w w' v 2 allF okK 2) := by
  go_enter Tryz.func38, Tryz.ntmps38

  go_wp2_with (first | (go_at_call 46; (with_reducible refine (c46 _ _).mono ?_); rintro e w' ⟨rfl, dd, oo, rfl⟩))
  go_ret
  refine ⟨_, rfl, ?_⟩
  have key : ∀ (X : World) (B : Nat), B = X.heap.size → Chg (fun _ => False) w X → ResQ w (X.alloc (.cells #[.bool (sK (allR false).1), .int .u64 (hK (allR false).1), .int .u64 (mK (allR false).1), .bool (sK (allR false).2), .int .u64 (hK (allR false).2), .int .u64 (mK (allR false).2), .bool (sK (allR true).1), .int .u64 (hK (allR true).1), .int .u64 (mK (allR true).1), .bool (sK (allR true).2), .int .u64 (hK (allR true).2), .int .u64 (mK (allR true).2)] 40)) (.slice (some ⟨B, 0, none⟩) 2 2) 2 allF okK 2 := fun X B hB C => by
    subst hB
    exact ⟨C.alloc _, OwnDV.new X _ 2 allF rfl (by omega), fun k e => by simp only [Value.ownBlock, Option.some.injEq] at e; have := C.size; omega, CanonR_all, MemR_all, Nat.le_refl _⟩
  exact key _ _ (by simp) (by (repeat (with_reducible first | exact Chg.refl _ _ | refine Chg.plus ?_ _ _ | refine Chg.alloc ?_ _ | refine Chg.drew ?_)))
set_option maxHeartbeats 1000000 in
theorem c37 (v0 : Value) (n : Nat) (f : Nat → Nat × Nat) (v1 : Value) (n' : Nat) (f' : Nat → Nat × Nat) (hn : n + n' ≤ 40000000) (w : World) (H : Rd layQ w v0 n f) (C : CanonR n f) (H' : Rd layQ w v1 n' f') (hok : ∀ i, i < n' → okR (f' i)) :
    Calls Tryz.prog 37 #[v0, v1] w fun e w' => ∃ v m h, e = .returned v ∧ Hid (ReQ w w' v m h (fun k => MemR n f k ∧ ¬ MemR n' f' k) (n + n')) := by
  obtain ⟨p, c, rfl, hnc, hr⟩ := H
  obtain ⟨p', c', rfl, hnc', hr'⟩ := H'
  have HR : Hid (Rd layQ w (.slice p n c) n f) := ⟨p, c, rfl, hnc, hr⟩
  have HR' : Hid _ := hr'
  have HC : Hid _ := C
  have HOK : Hid _ := hok
  clear hr hr' C hok
  go_enter Tryz.func37, Tryz.ntmps37

  go_wp2_with fail
  go_loopw [0, 9] (fun t0 t9 wr => ∃ (i m : Nat) (p0 : Option Addr) (c0 : Nat) (h : Nat → Nat × Nat), t9 = .int .i64 i ∧ t0 = .slice p0 m c0 ∧ i ≤ n' ∧ Hid (ReQ w wr (.slice p0 m c0) m h (fun k => MemR n f k ∧ ¬ MemR i f' k) (n + i)))
    (fun _ t9 _ => n' - (intOf t9).toNat)
  case atStart => exact ⟨0, n, p, c, f, rfl, rfl, Nat.zero_le _, .refl _ _, HR.out, HC.out, fun k => by simp [MemR_zero], Nat.le_refl _⟩
  case round =>
    obtain ⟨i, m, p0, c0, h, rfl, rfl, hi, X⟩ := hrel
    have HX : Hid (ReQ w wr (.slice p0 m c0) m h (fun k => MemR n f k ∧ ¬ MemR i f' k) (n + i)) := X.out
    clear X
    have hm : m ≤ n + i := HX.out.2.2.2.2
    by_cases hlt : i < n'
    · obtain ⟨G, o, rfl, hrow⟩ := HR'.out (by omega)
      have r1 : wr.rangeAt G (o + i * 6) (rqL (f' i)) := rangeAt_chg HX.out.1 (hrow i hlt) id
      obtain ⟨ca0, ca1, ca2, ca3, ca4, ca5⟩ := rq_cells r1
      have hG : G < wr.heap.size := World.block_lt_of_cell? _ _ ca0
      clear hrow r1
      go_wp2_with fail
      refine (c21 _ m h (by omega) (f' i) (HOK.out i hlt) _ (Rd.chg0 HX.out.2.1 (by (repeat (with_reducible first | exact Chg.refl _ _ | refine Chg.plus ?_ _ _ | refine Chg.alloc ?_ _ | refine Chg.drew ?_)))) HX.out.2.2.1).mono ?_
      rintro e w2 ⟨v, m2, h2, rfl, Z⟩
      obtain ⟨p2, c2, rfl, _⟩ := Z.out.2.1.form
      have HZ : Hid (ReQ w w2 (.slice p2 m2 c2) m2 h2 (fun k => MemR n f k ∧ ¬ MemR (i + 1) f' k) (n + (i + 1))) := by
        obtain ⟨z1, z2, z3, z4, z5⟩ := ResQ.re Z.out
        refine ⟨Chg.trans (Chg.trans HX.out.1 (by (repeat (with_reducible first | exact Chg.refl _ _ | refine Chg.plus ?_ _ _ | refine Chg.alloc ?_ _ | refine Chg.drew ?_)))) z1, z2, z3, fun k => ?_, by omega⟩
        refine (z4 k).trans ?_
        show (MemR m h k ∧ ¬ _) ↔ (MemR n f k ∧ ¬ MemR (i + 1) f' k)
        have e : MemR m h k ↔ (MemR n f k ∧ ¬ MemR i f' k) := HX.out.2.2.2.1 k
        rw [e, MemR_succ, not_or, and_assoc]
      clear Z ca0 ca1 ca2 ca3 ca4 ca5
      go_wp2_with fail
      go_roundw
      case rel => exact ⟨i + 1, m2, p2, c2, h2, by go_num, rfl, by omega, HZ.out⟩
      case measure => simp [intOf]; omega
    · obtain rfl : i = n' := by omega
      go_wp2_with fail
      go_ret
      exact ⟨_, m, h, rfl, HX.out⟩
theorem c18 (s : Bool) (h l : Int) (w : World) : Calls Tryz.prog 18 #[.agg #[.bool s, .int .u64 h, .int .u64 l]] w fun e w' => e = .returned (.int .i64 (cond s 128 32)) ∧ Plus w w' := by
  cases s
  all_goals
    go_enter Tryz.func18, Tryz.ntmps18
    go_wp2_with fail
    go_ret
    exact ⟨rfl, by repeat (first | exact Plus.refl _ | refine Plus.alloc ?_ _ | refine Plus.plus ?_ _ _ | refine Plus.drew ?_ | refine Plus.drewN ?_ _)⟩

theorem k18 (k : Nat) (w : World) : Calls Tryz.prog 18 #[.agg #[.bool (sK k), .int .u64 (hK k), .int .u64 (mK k)]] w fun e w' => e = .returned (.int .i64 ((lenK k : Nat) : Int)) ∧ Plus w w' := by
  have hq := c18 (sK k) (hK k) (mK k) w
  have e : (cond (sK k) 128 32 : Int) = ((lenK k : Nat) : Int) := by
    unfold lenK sK
    by_cases s : 8589934592 ≤ k
    · rw [if_pos s, decide_eq_true s]; rfl
    · rw [if_neg s, decide_eq_false s]; rfl
  rw [e] at hq
  exact hq
theorem c45_4 (h l n : Int) (n0 : 0 ≤ n) (n1 : n ≤ 32) (w : World) : Calls Tryz.prog 45 #[.agg #[.bool false, .int .u64 h, .int .u64 l], .int .i64 n] w fun e w' => e = .returned (.agg #[.bool false, .int .u64 h, .int .u64 (IntKind.u64.wrap (l / 2 ^ (32 - n).toNat * 2 ^ (32 - n).toNat))]) ∧ Plus w w' := by
  go_enter Tryz.func45, Tryz.ntmps45

  go_wp2_with fail
  exact bodyPost_ret (v := .agg #[.bool false, .int .u64 h, .int .u64 (IntKind.u64.wrap (l / 2 ^ (32 - n).toNat * 2 ^ (32 - n).toNat))]) (by simp [results, Tryz.results45, go_sem, IntWalk.iteOmega, ↓IntWalk.iteOmega]) rfl ⟨rfl, by repeat (first | exact Plus.refl _ | refine Plus.alloc ?_ _ | refine Plus.plus ?_ _ _ | refine Plus.drew ?_ | refine Plus.drewN ?_ _)⟩

theorem c45_6a (h l n : Int) (n0 : 0 ≤ n) (n1 : n ≤ 64) (w : World) : Calls Tryz.prog 45 #[.agg #[.bool true, .int .u64 h, .int .u64 l], .int .i64 n] w fun e w' => e = .returned (.agg #[.bool true, .int .u64 (IntKind.u64.wrap (h / 2 ^ (64 - n).toNat * 2 ^ (64 - n).toNat)), .int .u64 0]) ∧ Plus w w' := by
  go_enter Tryz.func45, Tryz.ntmps45

  go_wp2_with fail
  exact bodyPost_ret (v := .agg #[.bool true, .int .u64 (IntKind.u64.wrap (h / 2 ^ (64 - n).toNat * 2 ^ (64 - n).toNat)), .int .u64 0]) (by simp [results, Tryz.results45, go_sem, IntWalk.iteOmega, ↓IntWalk.iteOmega]) rfl ⟨rfl, by repeat (first | exact Plus.refl _ | refine Plus.alloc ?_ _ | refine Plus.plus ?_ _ _ | refine Plus.drew ?_ | refine Plus.drewN ?_ _)⟩

theorem c45_6b (h l n : Int) (n0 : 64 < n) (n1 : n ≤ 128) (w : World) : Calls Tryz.prog 45 #[.agg #[.bool true, .int .u64 h, .int .u64 l], .int .i64 n] w fun e w' => e = .returned (.agg #[.bool true, .int .u64 h, .int .u64 (IntKind.u64.wrap (l / 2 ^ (128 - n).toNat * 2 ^ (128 - n).toNat))]) ∧ Plus w w' := by
  go_enter Tryz.func45, Tryz.ntmps45

  go_wp2_with fail
  exact bodyPost_ret (v := .agg #[.bool true, .int .u64 h, .int .u64 (IntKind.u64.wrap (l / 2 ^ (128 - n).toNat * 2 ^ (128 - n).toNat))]) (by simp [results, Tryz.results45, go_sem, IntWalk.iteOmega, ↓IntWalk.iteOmega]) rfl ⟨rfl, by repeat (first | exact Plus.refl _ | refine Plus.alloc ?_ _ | refine Plus.plus ?_ _ _ | refine Plus.drew ?_ | refine Plus.drewN ?_ _)⟩

theorem topI (x q : Nat) (hx : x < 18446744073709551616) : IntKind.u64.wrap ((x : Int) / 2 ^ q * 2 ^ q) = ((x / 2 ^ q * 2 ^ q : Nat) : Int) := by
  have e : (x : Int) / 2 ^ q * 2 ^ q = ((x / 2 ^ q * 2 ^ q : Nat) : Int) := by rw [Int.natCast_mul, Int.natCast_ediv, Int.natCast_pow]; rfl
  have := Nat.div_mul_le_self x (2 ^ q)
  rw [e]
  exact wrap_in _ (by omega) (by omega)
theorem mK6 (k : Nat) (s : 8589934592 ≤ k) : mK k = lK k := by unfold mK lK; rw [if_pos s, if_pos s]
theorem pfA_fam (k n : Nat) (o : okK k) (hn : n ≤ lenK k) : sK (pfA k n) = sK k := by
  unfold lenK at hn
  by_cases s : 8589934592 ≤ k
  · rw [if_pos s] at hn
    exact (pf6_ok k n o s hn).1.2.1.trans (decide_eq_true s).symm
  · rw [if_neg s] at hn
    exact (pf4_ok k n (by unfold okK at o; omega) hn).1.2.1.trans (decide_eq_false s).symm
theorem mK4 (k : Nat) (s : ¬ 8589934592 ≤ k) : mK k = (k : Int) := by unfold mK; rw [if_neg s]
theorem pfA4 (k n : Nat) (s : ¬ 8589934592 ≤ k) : pfA k n = k / 2 ^ (32 - n) * 2 ^ (32 - n) := by
  unfold pfA roomK baseK lenK
  rw [if_neg s, if_neg s, Nat.sub_zero, Nat.zero_add]
theorem k45 (k n : Nat) (o : okK k) (hn : n ≤ lenK k) (w : World) : Calls Tryz.prog 45 #[.agg #[.bool (sK k), .int .u64 (hK k), .int .u64 (mK k)], .int .i64 ((n : Nat) : Int)] w fun e w' => e = .returned (.agg #[.bool (sK (pfA k n)), .int .u64 (hK (pfA k n)), .int .u64 (mK (pfA k n))]) ∧ Plus w w' := by
  have fam := pfA_fam k n o hn
  unfold lenK at hn
  by_cases s : 8589934592 ≤ k
  · rw [if_pos s] at hn
    have e : sK k = true := decide_eq_true s
    have s' : 8589934592 ≤ pfA k n := by rw [e] at fam; exact of_decide_eq_true fam
    obtain ⟨⟨a1, a2, a3, a4⟩, _⟩ := pf6_ok k n o s hn
    rw [fam, e, mK6 _ s, mK6 _ s', a3, a4, hK_N, lK_N]
    by_cases h : n ≤ 64
    · have hq := c45_6a (hN k : Nat) (lN k : Nat) (n : Int) (by omega) (by omega) w
      rw [show (64 - (n : Int)).toNat = 64 - n by omega, topI _ _ (hN_lt k o)] at hq
      have z : topL (lN k) n = 0 := by unfold topL; rw [if_pos h]
      rw [z]
      exact hq
    · have hq := c45_6b (hN k : Nat) (lN k : Nat) (n : Int) (by omega) (by omega) w
      rw [show (128 - (n : Int)).toNat = 128 - n by omega, topI _ _ (lN_lt k o)] at hq
      have z : topH (hN k) n = hN k := by unfold topH; rw [show 64 - n = 0 by omega, Nat.pow_zero, Nat.div_one, Nat.mul_one]
      have z2 : topL (lN k) n = lN k / 2 ^ (128 - n) * 2 ^ (128 - n) := by unfold topL; rw [if_neg h]
      rw [z, z2]
      exact hq
  · rw [if_neg s] at hn
    have h : k < 4294967296 := by unfold okK at o; omega
    have e : sK k = false := decide_eq_false s
    have s' : ¬ 8589934592 ≤ pfA k n := by rw [e] at fam; exact of_decide_eq_false fam
    obtain ⟨⟨a1, a2, a3, a4⟩, _⟩ := pf4_ok k n h hn
    have hq := c45_4 0 (k : Int) (n : Int) (by omega) (by omega) w
    rw [show (32 - (n : Int)).toNat = 32 - n by omega, topI _ _ (by omega), ← pfA4 k n s] at hq
    have eh : hK k = 0 := by unfold hK; rw [if_neg s]
    rw [fam, e, mK4 _ s, mK4 _ s', a3, eh]
    exact hq
theorem andNot_max (T : Nat) (h : T < 18446744073709551616) : bits .andNot .u64 18446744073709551615 (T : Int) = ((18446744073709551615 - T : Nat) : Int) := by
  have := u64_andNot_nat 18446744073709551615 T (by omega) h
  rw [show ((18446744073709551615 : Nat) : Int) = 18446744073709551615 from rfl] at this
  rw [this, Nat.and_comm]
  have := Nat.and_two_pow_sub_one_eq_mod (18446744073709551615 - T) 64
  rw [show (2 : Nat) ^ 64 - 1 = 18446744073709551615 from rfl, show (2 : Nat) ^ 64 = 18446744073709551616 from rfl] at this
  rw [this, Nat.mod_eq_of_lt (by omega)]
theorem top_max (q : Nat) (hq : q ≤ 64) : 18446744073709551615 / 2 ^ q * 2 ^ q = 18446744073709551616 - 2 ^ q := by
  have e : 18446744073709551616 = 2 ^ (64 - q) * 2 ^ q := (pow64 _ _ (by omega)).symm
  have hp := Nat.two_pow_pos q
  have h1 : 18446744073709551615 / 2 ^ q = 2 ^ (64 - q) - 1 := by
    have : 18446744073709551615 = (2 ^ (64 - q) - 1) * 2 ^ q + (2 ^ q - 1) := by
      rw [Nat.sub_mul, ← e, Nat.one_mul]
      have : 2 ^ q ≤ 18446744073709551616 := by rw [e]; exact Nat.le_mul_of_pos_left _ (Nat.two_pow_pos _)
      omega
    rw [this, Nat.add_comm, Nat.add_mul_div_right _ _ hp, Nat.div_eq_of_lt (by omega), Nat.zero_add]
  rw [h1, Nat.sub_mul, ← e, Nat.one_mul]
end Go.Proofs.YtmoabfpdlbngeaaGreatDoor
end

section
namespace Go.Proofs.YtmoabfpdlbngeaaGreatDoor
open Go.RowKit
set_option maxHeartbeats 400000
set_option linter.unusedVariables false
set_option linter.unusedSimpArgs false
theorem allR2 (k : Nat) : okK (allR (sK k)).2 ∧ lenK (allR (sK k)).2 = lenK k := by
  refine ⟨(allR_ok _).b, ?_⟩
  unfold lenK sK
  by_cases s : 8589934592 ≤ k
  · rw [decide_eq_true s, if_pos s]; rfl
  · rw [decide_eq_false s, if_neg s]; rfl
theorem k46 (s : Bool) (A : Nat × Nat) (h : allR s = A) (w : World) : Calls Tryz.prog 46 #[.bool s] w fun e w' => e = .returned (.agg #[.bool (sK A.1), .int .u64 (hK A.1), .int .u64 (mK A.1), .bool (sK A.2), .int .u64 (hK A.2), .int .u64 (mK A.2)]) ∧ Plus w w' := by
  subst h
  exact c46 s w
@[go_sem] theorem fld40 (a b c d e g : Value) (w : World) : (Instr.field 40 (.agg #[a, b, c, d, e, g]) 1).run Tryz.prog w = .ok (.agg #[d, e, g]) w := by
  simp [Instr.field, go_sem, part, asAgg]
set_option maxRecDepth 100000 in
theorem y19 (k n : Nat) (o : okK k) (hn : Hid (n ≤ lenK k)) (A : Nat × Nat) (hA : Hid (allR (sK k) = A)) (oA : okK A.2) (lA : Hid (n ≤ lenK A.2)) (w : World) : Calls Tryz.prog 19 #[.agg #[.bool (sK k), .int .u64 (hK k), .int .u64 (mK k), .int .i64 ((n : Nat) : Int)]] w fun e w' => e = .returned (.agg #[.bool (sK (pfA k n)), .int .u64 (hK (pfA k n)), .int .u64 (mK (pfA k n)), .bool (sK (pfA k n)), .int .u64 (bits .or .u64 (hK (pfA k n)) (bits .andNot .u64 (hK A.2) (hK (pfA A.2 n)))), .int .u64 (bits .or .u64 (mK (pfA k n)) (bits .andNot .u64 (mK A.2) (mK (pfA A.2 n))))]) ∧ Plus w w' := by
  go_enter Tryz.func19, Tryz.ntmps19

  go_wp2_with (first | (go_at_call 45; (with_reducible refine (k45 k n o hn.out _).mono ?_); rintro e w' ⟨rfl, dd, oo, rfl⟩) | (go_at_call 46; (with_reducible refine (k46 _ A hA.out _).mono ?_); rintro e w' ⟨rfl, dd, oo, rfl⟩) | (go_at_call 45; (with_reducible refine (k45 A.2 n oA lA.out _).mono ?_); rintro e w' ⟨rfl, dd, oo, rfl⟩))
  exact bodyPost_ret (v := .agg #[.bool (sK (pfA k n)), .int .u64 (hK (pfA k n)), .int .u64 (mK (pfA k n)), .bool (sK (pfA k n)), .int .u64 (bits .or .u64 (hK (pfA k n)) (bits .andNot .u64 (hK A.2) (hK (pfA A.2 n)))), .int .u64 (bits .or .u64 (mK (pfA k n)) (bits .andNot .u64 (mK A.2) (mK (pfA A.2 n))))]) (by simp [results, Tryz.results19, go_sem, IntWalk.iteOmega, ↓IntWalk.iteOmega]) rfl ⟨rfl, by repeat (first | exact Plus.refl _ | refine Plus.alloc ?_ _ | refine Plus.plus ?_ _ _ | refine Plus.drew ?_ | refine Plus.drewN ?_ _)⟩

theorem x19 (k n : Nat) (o : okK k) (hn : n ≤ lenK k) (w : World) : Calls Tryz.prog 19 #[.agg #[.bool (sK k), .int .u64 (hK k), .int .u64 (mK k), .int .i64 ((n : Nat) : Int)]] w fun e w' => e = .returned (.agg #[.bool (sK (pfA k n)), .int .u64 (hK (pfA k n)), .int .u64 (mK (pfA k n)), .bool (sK (pfA k n)), .int .u64 (bits .or .u64 (hK (pfA k n)) (bits .andNot .u64 (hK (allR (sK k)).2) (hK (pfA (allR (sK k)).2 n)))), .int .u64 (bits .or .u64 (mK (pfA k n)) (bits .andNot .u64 (mK (allR (sK k)).2) (mK (pfA (allR (sK k)).2 n))))]) ∧ Plus w w' :=
  y19 k n o hn _ rfl (allR2 k).1 (by unfold Hid; rw [(allR2 k).2]; exact hn) w
theorem or_low' (T q : Nat) (h : T % 2 ^ q = 0) : T ||| (2 ^ q - 1) = T + (2 ^ q - 1) := by
  have e : T = T / 2 ^ q * 2 ^ q := by
    have := Nat.div_add_mod T (2 ^ q)
    rw [h, Nat.add_zero, Nat.mul_comm] at this
    exact this.symm
  rw [e]; exact or_low _ _
theorem k19 (k n : Nat) (o : okK k) (hn : n ≤ lenK k) (w : World) : Calls Tryz.prog 19 #[.agg #[.bool (sK k), .int .u64 (hK k), .int .u64 (mK k), .int .i64 ((n : Nat) : Int)]] w fun e w' => e = .returned (.agg #[.bool (sK (pfR k n).1), .int .u64 (hK (pfR k n).1), .int .u64 (mK (pfR k n).1), .bool (sK (pfR k n).2), .int .u64 (hK (pfR k n).2), .int .u64 (mK (pfR k n).2)]) ∧ Plus w w' := by
  have hq := x19 k n o hn w
  have hn0 := hn
  have OA := (allR2 k).1
  have HA : n ≤ lenK (allR (sK k)).2 := by rw [(allR2 k).2]; exact hn
  unfold lenK at hn
  have fam := (pfR_ok k n o hn0).s
  have e1 : bits .or .u64 (hK (pfA k n)) (bits .andNot .u64 (hK (allR (sK k)).2) (hK (pfA (allR (sK k)).2 n))) = hK (pfR k n).2 := by
    by_cases s : 8589934592 ≤ k
    · rw [if_pos s] at hn
      have es : sK k = true := decide_eq_true s
      rw [es] at OA HA ⊢
      have sA : 8589934592 ≤ (allR true).2 := by decide
      have hA : n ≤ 128 := hn
      obtain ⟨⟨_, _, a3, _⟩, _, _, b3, _⟩ := pf6_ok k n o s hn
      obtain ⟨⟨_, _, c3, _⟩, _⟩ := pf6_ok (allR true).2 n OA sA hA
      have eA : hK (allR true).2 = 18446744073709551615 := by decide
      have eN : hN (allR true).2 = 18446744073709551615 := by decide
      rw [a3, b3, c3, eA, eN]
      have l1 := topH_lt 18446744073709551615 n (by omega)
      rw [andNot_max _ (by omega), u64_or_nat _ _ (topH_lt' _ _ (hN_lt k o)) (by omega)]
      have t : topH 18446744073709551615 n = 18446744073709551616 - 2 ^ (64 - n) := top_max _ (by omega)
      have hp := Nat.two_pow_pos (64 - n)
      have hle : 2 ^ (64 - n) ≤ 18446744073709551616 := by
        have := Nat.pow_le_pow_right (show 0 < 2 by omega) (show 64 - n ≤ 64 by omega)
        exact this
      rw [t, show 18446744073709551615 - (18446744073709551616 - 2 ^ (64 - n)) = 2 ^ (64 - n) - 1 by omega]
      rfl
    · rw [if_neg s] at hn
      have h : k < 4294967296 := by unfold okK at o; omega
      have es : sK k = false := decide_eq_false s
      rw [es] at OA HA ⊢
      obtain ⟨⟨_, _, a3, _⟩, _, _, b3, _⟩ := pf4_ok k n h hn
      obtain ⟨⟨_, _, c3, _⟩, _⟩ := pf4_ok (allR false).2 n (by decide) hn
      have eA : hK (allR false).2 = 0 := by decide
      rw [a3, b3, c3, eA]
      rfl
  have e2 : bits .or .u64 (mK (pfA k n)) (bits .andNot .u64 (mK (allR (sK k)).2) (mK (pfA (allR (sK k)).2 n))) = mK (pfR k n).2 := by
    have famA := pfA_fam k n o hn0
    by_cases s : 8589934592 ≤ k
    · rw [if_pos s] at hn
      have es : sK k = true := decide_eq_true s
      rw [es] at OA HA famA ⊢
      have sA : 8589934592 ≤ (allR true).2 := by decide
      have hA : n ≤ 128 := hn
      obtain ⟨⟨_, a2, _, a4⟩, _, b2, _, b4⟩ := pf6_ok k n o s hn
      obtain ⟨⟨_, c2, _, c4⟩, _⟩ := pf6_ok (allR true).2 n OA sA hA
      have eA : lK (allR true).2 = 18446744073709551615 := by decide
      have eN : lN (allR true).2 = 18446744073709551615 := by decide
      rw [mK6 _ (of_decide_eq_true a2), mK6 _ (of_decide_eq_true b2), mK6 _ sA, mK6 _ (of_decide_eq_true c2), a4, b4, c4, eA, eN]
      have l1 := topL_lt' 18446744073709551615 n (by omega)
      rw [andNot_max _ l1, u64_or_nat _ _ (topL_lt' _ _ (lN_lt k o)) (by omega)]
      have key : 18446744073709551615 - topL 18446744073709551615 n = 2 ^ (min 64 (128 - n)) - 1 := by
        unfold topL
        by_cases h : n ≤ 64
        · rw [if_pos h, show min 64 (128 - n) = 64 by omega]
        · have hp := Nat.two_pow_pos (128 - n)
          have hle : 2 ^ (128 - n) ≤ 18446744073709551616 := by
            have := Nat.pow_le_pow_right (show 0 < 2 by omega) (show 128 - n ≤ 64 by omega)
            exact this
          rw [if_neg h, top_max _ (by omega), show min 64 (128 - n) = 128 - n by omega]
          omega
      rw [key]
      rfl
    · rw [if_neg s] at hn
      have h : k < 4294967296 := by unfold okK at o; omega
      have es : sK k = false := decide_eq_false s
      rw [es] at OA HA famA ⊢
      have sA : ¬ 8589934592 ≤ (allR false).2 := by decide
      obtain ⟨⟨_, a2, _, a4⟩, _, b2, _, b4⟩ := pf4_ok k n h hn
      obtain ⟨⟨_, c2, _, c4⟩, _⟩ := pf4_ok (allR false).2 n (by decide) hn
      rw [mK4 _ (of_decide_eq_false a2), mK4 _ (of_decide_eq_false b2), mK4 _ sA, mK4 _ (of_decide_eq_false c2), pfA4 k n s, pfA4 _ n sA]
      have eZ : (pfR k n).2 = k / 2 ^ (32 - n) * 2 ^ (32 - n) + (2 ^ (32 - n) - 1) := by
        have e3 : (pfR k n).2 = pfA k n + (roomK k n - 1) := rfl
        rw [e3, pfA4 k n s]; unfold roomK lenK; rw [if_neg s]
      have hp := Nat.two_pow_pos (32 - n)
      have hle : 2 ^ (32 - n) ≤ 4294967296 := by
        have := Nat.pow_le_pow_right (show 0 < 2 by omega) (show 32 - n ≤ 32 by omega)
        exact this
      have e32 : 4294967296 = 2 ^ n * 2 ^ (32 - n) := by rw [← Nat.pow_add, show n + (32 - n) = 32 by omega]
      have eM : (allR false).2 / 2 ^ (32 - n) * 2 ^ (32 - n) = 4294967296 - 2 ^ (32 - n) := by
        have h1 : (allR false).2 / 2 ^ (32 - n) = 2 ^ n - 1 := by
          have : (allR false).2 = (2 ^ n - 1) * 2 ^ (32 - n) + (2 ^ (32 - n) - 1) := by
            rw [Nat.sub_mul, ← e32, Nat.one_mul]
            show 4294967295 = _
            omega
          rw [this, Nat.add_comm, Nat.add_mul_div_right _ _ hp, Nat.div_eq_of_lt (by omega), Nat.zero_add]
        rw [h1, Nat.sub_mul, ← e32, Nat.one_mul]
      have an : bits .andNot .u64 (((allR false).2 : Nat) : Int) ((4294967296 - 2 ^ (32 - n) : Nat) : Int) = ((2 ^ (32 - n) - 1 : Nat) : Int) := by
        rw [u64_andNot_nat _ _ (by decide) (by omega), Nat.and_comm]
        have := Nat.and_two_pow_sub_one_eq_mod (18446744073709551615 - (4294967296 - 2 ^ (32 - n))) 32
        rw [show (2 : Nat) ^ 32 - 1 = (allR false).2 from rfl, show (2 : Nat) ^ 32 = 4294967296 from rfl] at this
        rw [this]
        congr 1
        omega
      have tl := (pf4_top k n h hn).2
      rw [eM, an, u64_or_nat _ _ (by omega) (by omega), or_low, eZ]
  rw [e1, e2] at hq
  show Calls _ _ _ _ fun e w' => e = .returned (.agg #[.bool (sK (pfA k n)), .int .u64 (hK (pfA k n)), .int .u64 (mK (pfA k n)), .bool (sK (pfR k n).2), .int .u64 (hK (pfR k n).2), .int .u64 (mK (pfR k n).2)]) ∧ Plus w w'
  rw [← fam]
  exact hq
end Go.Proofs.YtmoabfpdlbngeaaGreatDoor
end
