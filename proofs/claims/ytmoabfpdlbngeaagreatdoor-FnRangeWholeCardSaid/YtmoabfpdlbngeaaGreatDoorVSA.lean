/-
  Part of the proofs on the laws of pub-addresssets: joined texts (SA, SB).
-/
import Derived.Test.YtmoabfpdlbngeaaGreatDoorVK
import Derived.Test.YtmoabfpdlbngeaaGreatDoorVA8
section
namespace Go.Proofs.YtmoabfpdlbngeaaGreatDoor
open Go.RowKit
set_option maxHeartbeats 400000
set_option linter.unusedVariables false
set_option linter.unusedSimpArgs false
/-- The low half of an address as the reference tells it. -/
def mK (k : Nat) : Int := if 8589934592 ≤ k then (((k - 8589934592) % 18446744073709551616 : Nat) : Int) else (k : Int)
theorem mK_in (k : Nat) (o : okK k) : W64 (mK k) := by
  unfold okK at o; unfold W64 mK
  split <;> omega
def cmpS (s1 : Bool) (h1 l1 : Int) (s2 : Bool) (h2 l2 : Int) : Int :=
  if s1 = s2 then (if h1 < h2 then -1 else if h2 < h1 then 1 else if l1 < l2 then -1 else if l2 < l1 then 1 else 0) else cond s2 (-1) 1
def cmpN (a b : Nat) : Int := if a < b then -1 else if b < a then 1 else 0
theorem cmpSK (a b : Nat) (oa : okK a) (ob : okK b) : cmpS (sK a) (hK a) (mK a) (sK b) (hK b) (mK b) = cmpN a b := by
  unfold okK at oa ob
  unfold cmpS cmpN hK mK sK
  by_cases p : 8589934592 ≤ a <;> by_cases q : 8589934592 ≤ b <;> simp only [p, q, if_true, if_false, decide_true, decide_false, Bool.false_eq_true] <;> (repeat' split) <;> first | rfl | omega | (simp_all; done) | (simp_all; omega)
def sgn (a b : Bool) : Int := cond a (-1) (cond b 1 0)
theorem c87 (a b : Bool) (w : World) : Calls Tryz.prog 87 #[.bool a, .bool b] w fun e w' => e = .returned (.int .i64 (sgn a b)) ∧ Plus w w' := by
  cases a <;> cases b
  all_goals
    go_enter Tryz.func87, Tryz.ntmps87
    go_wp2_with fail
    go_ret
    exact ⟨rfl, by repeat (first | exact Plus.refl _ | refine Plus.alloc ?_ _ | refine Plus.plus ?_ _ _ | refine Plus.drew ?_ | refine Plus.drewN ?_ _)⟩

theorem c39 (s1 : Bool) (h1 l1 : Int) (s2 : Bool) (h2 l2 : Int) (w : World) : Calls Tryz.prog 39 #[.agg #[.bool s1, .int .u64 h1, .int .u64 l1], .agg #[.bool s2, .int .u64 h2, .int .u64 l2]] w fun e w' => e = .returned (.int .i64 (cmpS s1 h1 l1 s2 h2 l2)) ∧ Plus w w' := by
  cases s1 <;> cases s2
  case false.true =>
    go_enter Tryz.func39, Tryz.ntmps39
    go_wp2_with (first | (go_at_call 87; (with_reducible refine (c87 _ _ _).mono ?_); rintro e w' ⟨rfl, dd, oo, rfl⟩))
    go_ret
    exact ⟨rfl, by repeat (first | exact Plus.refl _ | refine Plus.alloc ?_ _ | refine Plus.plus ?_ _ _ | refine Plus.drew ?_ | refine Plus.drewN ?_ _)⟩
  case true.false =>
    go_enter Tryz.func39, Tryz.ntmps39
    go_wp2_with (first | (go_at_call 87; (with_reducible refine (c87 _ _ _).mono ?_); rintro e w' ⟨rfl, dd, oo, rfl⟩))
    go_ret
    exact ⟨rfl, by repeat (first | exact Plus.refl _ | refine Plus.alloc ?_ _ | refine Plus.plus ?_ _ _ | refine Plus.drew ?_ | refine Plus.drewN ?_ _)⟩
  all_goals
    by_cases q : h1 = h2
    · subst q
      go_enter Tryz.func39, Tryz.ntmps39
      go_wp2_with (first | (go_at_call 87; (with_reducible refine (c87 _ _ _).mono ?_); rintro e w' ⟨rfl, dd, oo, rfl⟩))
      go_ret
      refine ⟨ret_i64 ?_, by repeat (first | exact Plus.refl _ | refine Plus.alloc ?_ _ | refine Plus.plus ?_ _ _ | refine Plus.drew ?_ | refine Plus.drewN ?_ _)⟩
      unfold cmpS sgn
      simp only [if_true, Int.lt_irrefl, if_false]
      by_cases p1 : l1 < l2 <;> by_cases p2 : l2 < l1 <;> simp [p1, p2]
    · have q1 : (h1 == h2) = false := by simpa using q
      have q2 : (h1 != h2) = true := by simpa using q
      go_enter Tryz.func39, Tryz.ntmps39
      go_wp2_with (first | (go_at_call 87; (with_reducible refine (c87 _ _ _).mono ?_); rintro e w' ⟨rfl, dd, oo, rfl⟩))
      go_ret
      refine ⟨ret_i64 ?_, by repeat (first | exact Plus.refl _ | refine Plus.alloc ?_ _ | refine Plus.plus ?_ _ _ | refine Plus.drew ?_ | refine Plus.drewN ?_ _)⟩
      unfold cmpS sgn
      by_cases p1 : h1 < h2 <;> by_cases p2 : h2 < h1 <;> simp [p1, p2]
      omega
theorem k39 (a b : Nat) (oa : okK a) (ob : okK b) (x : Int) (hx : cmpN a b = x) (w : World) : Calls Tryz.prog 39 #[.agg #[.bool (sK a), .int .u64 (hK a), .int .u64 (mK a)], .agg #[.bool (sK b), .int .u64 (hK b), .int .u64 (mK b)]] w fun e w' => e = .returned (.int .i64 x) ∧ Plus w w' := by
  have hq := c39 (sK a) (hK a) (mK a) (sK b) (hK b) (mK b) w
  rw [cmpSK a b oa ob, hx] at hq
  exact hq
theorem k39s (a b : Nat) (s t : Bool) (hs : sK a = s) (ht : sK b = t) (oa : okK a) (ob : okK b) (x : Int) (hx : cmpN a b = x) (w : World) : Calls Tryz.prog 39 #[.agg #[.bool s, .int .u64 (hK a), .int .u64 (mK a)], .agg #[.bool t, .int .u64 (hK b), .int .u64 (mK b)]] w fun e w' => e = .returned (.int .i64 x) ∧ Plus w w' := by
  subst hs ht
  exact k39 a b oa ob x hx w
def allR (s : Bool) : Nat × Nat := cond s (8589934592, 340282366920938463463374607440358146047) (0, 4294967295)
theorem allR_ok (s : Bool) : okR (allR s) := by
  cases s <;> refine ⟨?_, ?_, ?_, ?_⟩ <;> simp [allR, okK, sK]
theorem c46 (s : Bool) (w : World) : Calls Tryz.prog 46 #[.bool s] w fun e w' => e = .returned (.agg #[.bool (sK (allR s).1), .int .u64 (hK (allR s).1), .int .u64 (mK (allR s).1), .bool (sK (allR s).2), .int .u64 (hK (allR s).2), .int .u64 (mK (allR s).2)]) ∧ Plus w w' := by
  have e : (.agg #[.bool (sK (allR s).1), .int .u64 (hK (allR s).1), .int .u64 (mK (allR s).1), .bool (sK (allR s).2), .int .u64 (hK (allR s).2), .int .u64 (mK (allR s).2)] : Value) = cond s (.agg #[.bool true, .int .u64 0, .int .u64 0, .bool true, .int .u64 18446744073709551615, .int .u64 18446744073709551615]) (.agg #[.bool false, .int .u64 0, .int .u64 0, .bool false, .int .u64 0, .int .u64 4294967295]) := by
    cases s <;> simp [allR, sK, hK, mK]
  rw [e]
  clear e
  cases s
  · go_enter Tryz.func46, Tryz.ntmps46
    go_wp2_with fail

    exact bodyPost_ret (v := .agg #[.bool false, .int .u64 0, .int .u64 0, .bool false, .int .u64 0, .int .u64 4294967295]) (by simp [results, Tryz.results46, go_sem, IntWalk.iteOmega, ↓IntWalk.iteOmega]) rfl ⟨rfl, by repeat (first | exact Plus.refl _ | refine Plus.alloc ?_ _ | refine Plus.plus ?_ _ _ | refine Plus.drew ?_ | refine Plus.drewN ?_ _)⟩

  · go_enter Tryz.func46, Tryz.ntmps46
    go_wp2_with fail

    exact bodyPost_ret (v := .agg #[.bool true, .int .u64 0, .int .u64 0, .bool true, .int .u64 18446744073709551615, .int .u64 18446744073709551615]) (by simp [results, Tryz.results46, go_sem, IntWalk.iteOmega, ↓IntWalk.iteOmega]) rfl ⟨rfl, by repeat (first | exact Plus.refl _ | refine Plus.alloc ?_ _ | refine Plus.plus ?_ _ _ | refine Plus.drew ?_ | refine Plus.drewN ?_ _)⟩

theorem k50x (a b : Nat) (oa : okK a) (ob : okK b) (x : Int) (hx : cmpN a b = x) (q : x ≤ 0) (w : World) : Calls Tryz.prog 50 #[.agg #[.bool (sK a), .int .u64 (hK a), .int .u64 (mK a)], .agg #[.bool (sK b), .int .u64 (hK b), .int .u64 (mK b)]] w fun e w' => e = .returned (.agg #[.bool (sK a), .int .u64 (hK a), .int .u64 (mK a)]) ∧ Plus w w' := by
  have HX : Hid _ := hx
  clear hx
  go_enter Tryz.func50, Tryz.ntmps50

  go_wp2_with (first | (go_at_call 39; (with_reducible refine (k39 _ _ oa ob x HX.out _).mono ?_); rintro e w' ⟨rfl, dd, oo, rfl⟩))
  exact bodyPost_ret (v := .agg #[.bool (sK a), .int .u64 (hK a), .int .u64 (mK a)]) (by simp [results, Tryz.results50, go_sem, IntWalk.iteOmega, ↓IntWalk.iteOmega]) rfl ⟨rfl, by repeat (first | exact Plus.refl _ | refine Plus.alloc ?_ _ | refine Plus.plus ?_ _ _ | refine Plus.drew ?_ | refine Plus.drewN ?_ _)⟩

theorem k50y (a b : Nat) (oa : okK a) (ob : okK b) (x : Int) (hx : cmpN a b = x) (q : 0 < x) (w : World) : Calls Tryz.prog 50 #[.agg #[.bool (sK a), .int .u64 (hK a), .int .u64 (mK a)], .agg #[.bool (sK b), .int .u64 (hK b), .int .u64 (mK b)]] w fun e w' => e = .returned (.agg #[.bool (sK b), .int .u64 (hK b), .int .u64 (mK b)]) ∧ Plus w w' := by
  have HX : Hid _ := hx
  clear hx
  go_enter Tryz.func50, Tryz.ntmps50

  go_wp2_with (first | (go_at_call 39; (with_reducible refine (k39 _ _ oa ob x HX.out _).mono ?_); rintro e w' ⟨rfl, dd, oo, rfl⟩))
  exact bodyPost_ret (v := .agg #[.bool (sK b), .int .u64 (hK b), .int .u64 (mK b)]) (by simp [results, Tryz.results50, go_sem, IntWalk.iteOmega, ↓IntWalk.iteOmega]) rfl ⟨rfl, by repeat (first | exact Plus.refl _ | refine Plus.alloc ?_ _ | refine Plus.plus ?_ _ _ | refine Plus.drew ?_ | refine Plus.drewN ?_ _)⟩

theorem k50 (a b : Nat) (oa : okK a) (ob : okK b) (w : World) : Calls Tryz.prog 50 #[.agg #[.bool (sK a), .int .u64 (hK a), .int .u64 (mK a)], .agg #[.bool (sK b), .int .u64 (hK b), .int .u64 (mK b)]] w fun e w' => e = .returned (.agg #[.bool (sK (min a b)), .int .u64 (hK (min a b)), .int .u64 (mK (min a b))]) ∧ Plus w w' := by
  by_cases q : a ≤ b
  · rw [show min a b = a by omega]
    refine k50x a b oa ob _ rfl ?_ w
    unfold cmpN; (repeat' split) <;> omega
  · rw [show min a b = b by omega]
    refine k50y a b oa ob _ rfl ?_ w
    unfold cmpN; (repeat' split) <;> omega
theorem k51x (a b : Nat) (oa : okK a) (ob : okK b) (x : Int) (hx : cmpN a b = x) (q : 0 ≤ x) (w : World) : Calls Tryz.prog 51 #[.agg #[.bool (sK a), .int .u64 (hK a), .int .u64 (mK a)], .agg #[.bool (sK b), .int .u64 (hK b), .int .u64 (mK b)]] w fun e w' => e = .returned (.agg #[.bool (sK a), .int .u64 (hK a), .int .u64 (mK a)]) ∧ Plus w w' := by
  have HX : Hid _ := hx
  clear hx
  go_enter Tryz.func51, Tryz.ntmps51

  go_wp2_with (first | (go_at_call 39; (with_reducible refine (k39 _ _ oa ob x HX.out _).mono ?_); rintro e w' ⟨rfl, dd, oo, rfl⟩))
  exact bodyPost_ret (v := .agg #[.bool (sK a), .int .u64 (hK a), .int .u64 (mK a)]) (by simp [results, Tryz.results51, go_sem, IntWalk.iteOmega, ↓IntWalk.iteOmega]) rfl ⟨rfl, by repeat (first | exact Plus.refl _ | refine Plus.alloc ?_ _ | refine Plus.plus ?_ _ _ | refine Plus.drew ?_ | refine Plus.drewN ?_ _)⟩

theorem k51y (a b : Nat) (oa : okK a) (ob : okK b) (x : Int) (hx : cmpN a b = x) (q : x < 0) (w : World) : Calls Tryz.prog 51 #[.agg #[.bool (sK a), .int .u64 (hK a), .int .u64 (mK a)], .agg #[.bool (sK b), .int .u64 (hK b), .int .u64 (mK b)]] w fun e w' => e = .returned (.agg #[.bool (sK b), .int .u64 (hK b), .int .u64 (mK b)]) ∧ Plus w w' := by
  have HX : Hid _ := hx
  clear hx
  go_enter Tryz.func51, Tryz.ntmps51

  go_wp2_with (first | (go_at_call 39; (with_reducible refine (k39 _ _ oa ob x HX.out _).mono ?_); rintro e w' ⟨rfl, dd, oo, rfl⟩))
  exact bodyPost_ret (v := .agg #[.bool (sK b), .int .u64 (hK b), .int .u64 (mK b)]) (by simp [results, Tryz.results51, go_sem, IntWalk.iteOmega, ↓IntWalk.iteOmega]) rfl ⟨rfl, by repeat (first | exact Plus.refl _ | refine Plus.alloc ?_ _ | refine Plus.plus ?_ _ _ | refine Plus.drew ?_ | refine Plus.drewN ?_ _)⟩

theorem k51 (a b : Nat) (oa : okK a) (ob : okK b) (w : World) : Calls Tryz.prog 51 #[.agg #[.bool (sK a), .int .u64 (hK a), .int .u64 (mK a)], .agg #[.bool (sK b), .int .u64 (hK b), .int .u64 (mK b)]] w fun e w' => e = .returned (.agg #[.bool (sK (max a b)), .int .u64 (hK (max a b)), .int .u64 (mK (max a b))]) ∧ Plus w w' := by
  by_cases q : b ≤ a
  · rw [show max a b = a by omega]
    refine k51x a b oa ob _ rfl ?_ w
    unfold cmpN; (repeat' split) <;> omega
  · rw [show max a b = b by omega]
    refine k51y a b oa ob _ rfl ?_ w
    unfold cmpN; (repeat' split) <;> omega
theorem k47f (x r : Nat × Nat) (hs : sK x.1 ≠ sK r.1) (w : World) : Calls Tryz.prog 47 #[.agg #[.bool (sK x.1), .int .u64 (hK x.1), .int .u64 (mK x.1), .bool (sK x.2), .int .u64 (hK x.2), .int .u64 (mK x.2)], .agg #[.bool (sK r.1), .int .u64 (hK r.1), .int .u64 (mK r.1), .bool (sK r.2), .int .u64 (hK r.2), .int .u64 (mK r.2)]] w fun e w' => e = .returned (.bool true) ∧ Plus w w' := by
  have h1 : (sK x.1 == sK r.1) = false := by simpa using hs
  have h2 : (sK x.1 != sK r.1) = true := by simpa using hs
  go_enter Tryz.func47, Tryz.ntmps47

  go_wp2_with fail
  go_ret
  exact ⟨rfl, by repeat (first | exact Plus.refl _ | refine Plus.alloc ?_ _ | refine Plus.plus ?_ _ _ | refine Plus.drew ?_ | refine Plus.drewN ?_ _)⟩

theorem k47a (x r : Nat × Nat) (ox : okR x) (or : okR r) (hs : sK x.1 = sK r.1) (y1 : Int) (hy1 : cmpN x.2 r.1 = y1) (q1 : y1 < 0) (y2 : Int) (hy2 : cmpN r.2 x.1 = y2) (q2 : True) (w : World) : Calls Tryz.prog 47 #[.agg #[.bool (sK x.1), .int .u64 (hK x.1), .int .u64 (mK x.1), .bool (sK x.2), .int .u64 (hK x.2), .int .u64 (mK x.2)], .agg #[.bool (sK r.1), .int .u64 (hK r.1), .int .u64 (mK r.1), .bool (sK r.2), .int .u64 (hK r.2), .int .u64 (mK r.2)]] w fun e w' => e = .returned (.bool true) ∧ Plus w w' := by
  have h1 : (sK x.1 == sK r.1) = true := by simpa using hs
  have h2 : (sK x.1 != sK r.1) = false := by simpa using hs
  have HY1 : Hid _ := hy1
  have HY2 : Hid _ := hy2
  have OX1 := ox.a
  have OX2 := ox.b
  have OR1 := or.a
  have OR2 := or.b
  clear hy1 hy2 ox or hs
  go_enter Tryz.func47, Tryz.ntmps47

  go_wp2_with (first | (go_at_call 39; (with_reducible refine (k39 _ _ OX2 OR1 y1 HY1.out _).mono ?_); rintro e w' ⟨rfl, dd, oo, rfl⟩) | (go_at_call 39; (with_reducible refine (k39 _ _ OR2 OX1 y2 HY2.out _).mono ?_); rintro e w' ⟨rfl, dd, oo, rfl⟩))
  go_ret
  exact ⟨rfl, by repeat (first | exact Plus.refl _ | refine Plus.alloc ?_ _ | refine Plus.plus ?_ _ _ | refine Plus.drew ?_ | refine Plus.drewN ?_ _)⟩

theorem k47b (x r : Nat × Nat) (ox : okR x) (or : okR r) (hs : sK x.1 = sK r.1) (y1 : Int) (hy1 : cmpN x.2 r.1 = y1) (q1 : 0 ≤ y1) (y2 : Int) (hy2 : cmpN r.2 x.1 = y2) (q2 : y2 < 0) (w : World) : Calls Tryz.prog 47 #[.agg #[.bool (sK x.1), .int .u64 (hK x.1), .int .u64 (mK x.1), .bool (sK x.2), .int .u64 (hK x.2), .int .u64 (mK x.2)], .agg #[.bool (sK r.1), .int .u64 (hK r.1), .int .u64 (mK r.1), .bool (sK r.2), .int .u64 (hK r.2), .int .u64 (mK r.2)]] w fun e w' => e = .returned (.bool true) ∧ Plus w w' := by
  have h1 : (sK x.1 == sK r.1) = true := by simpa using hs
  have h2 : (sK x.1 != sK r.1) = false := by simpa using hs
  have HY1 : Hid _ := hy1
  have HY2 : Hid _ := hy2
  have OX1 := ox.a
  have OX2 := ox.b
  have OR1 := or.a
  have OR2 := or.b
  clear hy1 hy2 ox or hs
  go_enter Tryz.func47, Tryz.ntmps47

  go_wp2_with (first | (go_at_call 39; (with_reducible refine (k39 _ _ OX2 OR1 y1 HY1.out _).mono ?_); rintro e w' ⟨rfl, dd, oo, rfl⟩) | (go_at_call 39; (with_reducible refine (k39 _ _ OR2 OX1 y2 HY2.out _).mono ?_); rintro e w' ⟨rfl, dd, oo, rfl⟩))
  go_ret
  exact ⟨rfl, by repeat (first | exact Plus.refl _ | refine Plus.alloc ?_ _ | refine Plus.plus ?_ _ _ | refine Plus.drew ?_ | refine Plus.drewN ?_ _)⟩

theorem k47c (x r : Nat × Nat) (ox : okR x) (or : okR r) (hs : sK x.1 = sK r.1) (y1 : Int) (hy1 : cmpN x.2 r.1 = y1) (q1 : 0 ≤ y1) (y2 : Int) (hy2 : cmpN r.2 x.1 = y2) (q2 : 0 ≤ y2) (w : World) : Calls Tryz.prog 47 #[.agg #[.bool (sK x.1), .int .u64 (hK x.1), .int .u64 (mK x.1), .bool (sK x.2), .int .u64 (hK x.2), .int .u64 (mK x.2)], .agg #[.bool (sK r.1), .int .u64 (hK r.1), .int .u64 (mK r.1), .bool (sK r.2), .int .u64 (hK r.2), .int .u64 (mK r.2)]] w fun e w' => e = .returned (.bool false) ∧ Plus w w' := by
  have h1 : (sK x.1 == sK r.1) = true := by simpa using hs
  have h2 : (sK x.1 != sK r.1) = false := by simpa using hs
  have HY1 : Hid _ := hy1
  have HY2 : Hid _ := hy2
  have OX1 := ox.a
  have OX2 := ox.b
  have OR1 := or.a
  have OR2 := or.b
  clear hy1 hy2 ox or hs
  have d1 : decide (y1 < 0) = false := decide_eq_false (by omega)
  have d2 : decide (y2 < 0) = false := decide_eq_false (by omega)
  go_enter Tryz.func47, Tryz.ntmps47

  go_wp2_with (first | (go_at_call 39; (with_reducible refine (k39 _ _ OX2 OR1 y1 HY1.out _).mono ?_); rintro e w' ⟨rfl, dd, oo, rfl⟩) | (go_at_call 39; (with_reducible refine (k39 _ _ OR2 OX1 y2 HY2.out _).mono ?_); rintro e w' ⟨rfl, dd, oo, rfl⟩))
  go_ret
  exact ⟨rfl, by repeat (first | exact Plus.refl _ | refine Plus.alloc ?_ _ | refine Plus.plus ?_ _ _ | refine Plus.drew ?_ | refine Plus.drewN ?_ _)⟩

theorem k47 (x r : Nat × Nat) (ox : okR x) (or : okR r) (b : Bool) (hb : decide (x.2 < r.1 ∨ r.2 < x.1) = b) (w : World) : Calls Tryz.prog 47 #[.agg #[.bool (sK x.1), .int .u64 (hK x.1), .int .u64 (mK x.1), .bool (sK x.2), .int .u64 (hK x.2), .int .u64 (mK x.2)], .agg #[.bool (sK r.1), .int .u64 (hK r.1), .int .u64 (mK r.1), .bool (sK r.2), .int .u64 (hK r.2), .int .u64 (mK r.2)]] w fun e w' => e = .returned (.bool b) ∧ Plus w w' := by
  subst hb
  by_cases hs : sK x.1 = sK r.1
  · by_cases p1 : x.2 < r.1
    · rw [decide_eq_true (Or.inl p1)]
      exact k47a x r ox or hs _ rfl (by unfold cmpN; rw [if_pos p1]; omega) _ rfl trivial w
    · have e1 : 0 ≤ cmpN x.2 r.1 := by unfold cmpN; rw [if_neg p1]; split <;> omega
      by_cases p2 : r.2 < x.1
      · rw [decide_eq_true (Or.inr p2)]
        exact k47b x r ox or hs _ rfl e1 _ rfl (by unfold cmpN; rw [if_pos p2]; omega) w
      · rw [decide_eq_false (by omega)]
        exact k47c x r ox or hs _ rfl e1 _ rfl (by unfold cmpN; rw [if_neg p2]; split <;> omega) w
  · have : x.2 < r.1 ∨ r.2 < x.1 := by
      have a1 := ox.a; have a2 := ox.b; have a3 := ox.s; have a4 := or.a; have a5 := or.b; have a6 := or.s
      unfold sK at *; unfold okK at *
      rw [Bool.eq_iff_iff] at *
      simp only [decide_eq_true_eq] at *
      omega
    rw [decide_eq_true this]
    exact k47f x r hs w
theorem injS (a b : Nat) (oa : okK a) (ob : okK b) (s : sK a = sK b) (h : hK a = hK b) (l : mK a = mK b) : a = b := by
  unfold okK at oa ob
  unfold hK at h; unfold mK at l; unfold sK at s
  by_cases p : 8589934592 ≤ a <;> by_cases q : 8589934592 ≤ b <;> simp [p, q] at h l s <;> omega
theorem eqS3 (a b : Nat) (oa : okK a) (ob : okK b) : (sK a == sK b && (hK a == hK b && mK a == mK b)) = decide (a = b) := by
  by_cases e : a = b
  · subst e; simp
  · rw [decide_eq_false e]
    rw [Bool.eq_false_iff]
    intro h
    simp only [Bool.and_eq_true, beq_iff_eq] at h
    exact e (injS a b oa ob h.1 h.2.1 h.2.2)
theorem eq38 (a b : Nat) (oa : okK a) (ob : okK b) (x : Bool) (hx : decide (a = b) = x) (w : World) : (binOp .eql 38 (.agg #[.bool (sK a), .int .u64 (hK a), .int .u64 (mK a)]) (.agg #[.bool (sK b), .int .u64 (hK b), .int .u64 (mK b)])).run Tryz.prog w = .ok (.bool x) w := by
  rw [← hx, ← eqS3 a b oa ob]
  by_cases h1 : sK a = sK b <;> by_cases h2 : hK a = hK b <;> by_cases h3 : mK a = mK b <;> simp [go_sem, h1, h2, h3]
end Go.Proofs.YtmoabfpdlbngeaaGreatDoor
end

section
namespace Go.Proofs.YtmoabfpdlbngeaaGreatDoor
open Go.RowKit
set_option maxHeartbeats 400000
set_option linter.unusedVariables false
set_option linter.unusedSimpArgs false
theorem run_sub64c {P : Program} (x c : Int) (hx : 0 ≤ x) (hx2 : x < 18446744073709551616) (hc : 0 ≤ c) (hc1 : c ≤ 1) (w : World) :
    (sub64Entry #[.int .u64 x, .int .u64 0, .int .u64 c]).run P w = .ok (.tuple #[.int .u64 (lo64 (x - c)), .int .u64 (bo64 x c)]) w := by
  obtain ⟨X, rfl⟩ := Int.eq_ofNat_of_zero_le hx
  have e : c = 0 ∨ c = 1 := by omega
  rcases e with rfl | rfl
  · have key : (sub64Entry #[.int .u64 (X : Int), .int .u64 0, .int .u64 0]).run P w =
        .ok (Extern.MathBitsCarry.pair ((X + Extern.MathBitsCarry.m64 - 0 - 0) % Extern.MathBitsCarry.m64) (if X < 0 + 0 then 1 else 0)) w := rfl
    rw [key]
    simp only [Extern.MathBitsCarry.pair, Extern.MathBitsCarry.m64, lo64, bo64]
    show Result.ok (Value.tuple #[.int .u64 ((((X + 2 ^ 64 - 0 - 0) % 2 ^ 64 : Nat)) : Int), .int .u64 (((if X < 0 + 0 then 1 else 0 : Nat)) : Int)]) w = _
    have e1 : ((((X + 2 ^ 64 - 0 - 0) % 2 ^ 64 : Nat)) : Int) = ((X : Int) - 0) % 18446744073709551616 := by simp
    rw [e1, if_neg (by omega), if_neg (by omega)]
    rfl
  · have key : (sub64Entry #[.int .u64 (X : Int), .int .u64 0, .int .u64 1]).run P w =
        .ok (Extern.MathBitsCarry.pair ((X + Extern.MathBitsCarry.m64 - 0 - 1) % Extern.MathBitsCarry.m64) (if X < 0 + 1 then 1 else 0)) w := rfl
    rw [key]
    simp only [Extern.MathBitsCarry.pair, Extern.MathBitsCarry.m64, lo64, bo64]
    show Result.ok (Value.tuple #[.int .u64 ((((X + 2 ^ 64 - 0 - 1) % 2 ^ 64 : Nat)) : Int), .int .u64 (((if X < 0 + 1 then 1 else 0 : Nat)) : Int)]) w = _
    have e1 : ((((X + 2 ^ 64 - 0 - 1) % 2 ^ 64 : Nat)) : Int) = ((X : Int) - 1) % 18446744073709551616 := by
      have : X + 2 ^ 64 - 0 - 1 = X + 18446744073709551615 := by omega
      rw [this]; omega
    have e2 : (((if X < 0 + 1 then 1 else 0 : Nat)) : Int) = if (X : Int) < 1 then 1 else 0 := by
      by_cases h : X < 1
      · rw [if_pos (by omega), if_pos (by omega)]; rfl
      · rw [if_neg (by omega), if_neg (by omega)]; rfl
    rw [e1, e2]
theorem run91c (x c : Int) (hx : 0 ≤ x) (hx2 : x < 18446744073709551616) (hc : 0 ≤ c) (hc1 : c ≤ 1) (w : World) :
    (callFunc 91 #[.int .u64 x, .int .u64 0, .int .u64 c]).run Tryz.prog w = .ok (.value (.tuple #[.int .u64 (lo64 (x - c)), .int .u64 (bo64 x c)])) w := by
  rw [run_callFunc_extern Tryz.func91 (by kernel_rfl) (by kernel_rfl) (by kernel_rfl) (e := sub64Entry) (by kernel_rfl), run_sub64c x c hx hx2 hc hc1]
  rfl
theorem c40_4 (l : Int) (l0 : 0 ≤ l) (l1 : l < 4294967296) (w : World) : Calls Tryz.prog 40 #[.agg #[.bool false, .int .u64 0, .int .u64 l]] w fun e w' => e = .returned (.tuple #[.agg #[.bool false, .int .u64 0, .int .u64 (bits .and .u64 (l + 1) 4294967295)], .bool (decide (l < 4294967295))]) ∧ Plus w w' := by
  go_enter Tryz.func40, Tryz.ntmps40

  go_wp2_with fail
  go_region
  all_goals go_wp2_with fail
  all_goals exact bodyPost_ret (v := .tuple #[.agg #[.bool false, .int .u64 0, .int .u64 (bits .and .u64 (l + 1) 4294967295)], .bool (decide (l < 4294967295))]) (by simp [results, Tryz.results40, go_sem, IntWalk.iteOmega, ↓IntWalk.iteOmega]) rfl ⟨rfl, by repeat (first | exact Plus.refl _ | refine Plus.alloc ?_ _ | refine Plus.plus ?_ _ _ | refine Plus.drew ?_ | refine Plus.drewN ?_ _)⟩

theorem c40_6 (h l : Int) (wh : W64 h) (wl : W64 l) (w : World) : Calls Tryz.prog 40 #[.agg #[.bool true, .int .u64 h, .int .u64 l]] w fun e w' => e = .returned (.tuple #[.agg #[.bool true, .int .u64 (lo64 (h + hi64 (l + 1))), .int .u64 (lo64 (l + 1))], .bool (hi64 (h + hi64 (l + 1)) == 0)]) ∧ Plus w w' := by
  unfold W64 at wh wl
  have h88 := fun w => run88 l 1 wl.1 (by omega) w
  have h88c := fun w => run88c h (hi64 (l + 1)) wh.1 (by unfold hi64; omega) (by unfold hi64; omega) w
  clear wh wl
  go_enter Tryz.func40, Tryz.ntmps40

  go_wp2_with fail
  exact bodyPost_ret (v := .tuple #[.agg #[.bool true, .int .u64 (lo64 (h + hi64 (l + 1))), .int .u64 (lo64 (l + 1))], .bool (hi64 (h + hi64 (l + 1)) == 0)]) (by simp [results, Tryz.results40, go_sem, IntWalk.iteOmega, ↓IntWalk.iteOmega]) rfl ⟨rfl, by repeat (first | exact Plus.refl _ | refine Plus.alloc ?_ _ | refine Plus.plus ?_ _ _ | refine Plus.drew ?_ | refine Plus.drewN ?_ _)⟩

theorem c48_4 (l : Int) (l0 : 1 ≤ l) (l1 : l < 4294967296) (w : World) : Calls Tryz.prog 48 #[.agg #[.bool false, .int .u64 0, .int .u64 l]] w fun e w' => e = .returned (.tuple #[.agg #[.bool false, .int .u64 0, .int .u64 (bits .and .u64 (l - 1) 4294967295)], .bool (decide (0 < l))]) ∧ Plus w w' := by
  go_enter Tryz.func48, Tryz.ntmps48

  go_wp2_with fail
  go_region
  all_goals go_wp2_with fail
  all_goals exact bodyPost_ret (v := .tuple #[.agg #[.bool false, .int .u64 0, .int .u64 (bits .and .u64 (l - 1) 4294967295)], .bool (decide (0 < l))]) (by simp [results, Tryz.results48, go_sem, IntWalk.iteOmega, ↓IntWalk.iteOmega]) rfl ⟨rfl, by repeat (first | exact Plus.refl _ | refine Plus.alloc ?_ _ | refine Plus.plus ?_ _ _ | refine Plus.drew ?_ | refine Plus.drewN ?_ _)⟩

theorem c48_6 (h l : Int) (wh : W64 h) (wl : W64 l) (w : World) : Calls Tryz.prog 48 #[.agg #[.bool true, .int .u64 h, .int .u64 l]] w fun e w' => e = .returned (.tuple #[.agg #[.bool true, .int .u64 (lo64 (h - bo64 l 1)), .int .u64 (lo64 (l - 1))], .bool (bo64 h (bo64 l 1) == 0)]) ∧ Plus w w' := by
  unfold W64 at wh wl
  have h91 := fun w => run91 l 1 wl.1 (by omega) (by omega) w
  have h91c := fun w => run91c h (bo64 l 1) wh.1 wh.2 (by unfold bo64; split <;> omega) (by unfold bo64; split <;> omega) w
  clear wh wl
  go_enter Tryz.func48, Tryz.ntmps48

  go_wp2_with fail
  exact bodyPost_ret (v := .tuple #[.agg #[.bool true, .int .u64 (lo64 (h - bo64 l 1)), .int .u64 (lo64 (l - 1))], .bool (bo64 h (bo64 l 1) == 0)]) (by simp [results, Tryz.results48, go_sem, IntWalk.iteOmega, ↓IntWalk.iteOmega]) rfl ⟨rfl, by repeat (first | exact Plus.refl _ | refine Plus.alloc ?_ _ | refine Plus.plus ?_ _ _ | refine Plus.drew ?_ | refine Plus.drewN ?_ _)⟩

theorem and32 (x : Int) (h0 : 0 ≤ x) (h1 : x < 18446744073709551616) : bits .and .u64 x 4294967295 = x % 4294967296 := by
  obtain ⟨X, rfl⟩ := Int.eq_ofNat_of_zero_le h0
  have := u64_and_nat X 4294967295 (by omega) (by omega)
  rw [show ((4294967295 : Nat) : Int) = 4294967295 from rfl] at this
  rw [this]
  have := Nat.and_two_pow_sub_one_eq_mod X 32
  rw [show (2 : Nat) ^ 32 - 1 = 4294967295 from rfl, show (2 : Nat) ^ 32 = 4294967296 from rfl] at this
  rw [this]; rfl
theorem tup2 {a b : Value} {c d : Value} (h : a = c) (k : b = d) : (Value.tuple #[a, b]) = .tuple #[c, d] := by rw [h, k]
theorem agg3 {s t : Bool} {a b c d : Int} (h : s = t) (k : a = c) (l : b = d) : (Value.agg #[.bool s, .int .u64 a, .int .u64 b]) = .agg #[.bool t, .int .u64 c, .int .u64 d] := by rw [h, k, l]
theorem k40 (a : Nat) (o : okK a) (o' : okK (a + 1)) (w : World) : Calls Tryz.prog 40 #[.agg #[.bool (sK a), .int .u64 (hK a), .int .u64 (mK a)]] w fun e w' => e = .returned (.tuple #[.agg #[.bool (sK (a + 1)), .int .u64 (hK (a + 1)), .int .u64 (mK (a + 1))], .bool true]) ∧ Plus w w' := by
  by_cases s : 8589934592 ≤ a
  · have e : sK a = true := decide_eq_true s
    have e' : sK (a + 1) = true := decide_eq_true (by omega)
    have hq := c40_6 (hK a) (mK a) (hK_in a o) (mK_in a o) w
    have e1 : lo64 (hK a + hi64 (mK a + 1)) = hK (a + 1) ∧ lo64 (mK a + 1) = mK (a + 1) ∧ (hi64 (hK a + hi64 (mK a + 1)) == 0) = true := by
      unfold okK at o o'; unfold hK mK hi64 lo64
      rw [if_pos s, if_pos s, if_pos (show 8589934592 ≤ a + 1 by omega), if_pos (show 8589934592 ≤ a + 1 by omega), beq_iff_eq]
      omega
    rw [e1.1, e1.2.1, e1.2.2] at hq
    rw [e, e']
    exact hq
  · have e : sK a = false := decide_eq_false s
    have h : a + 1 < 4294967296 := by unfold okK at o o'; omega
    have e' : sK (a + 1) = false := decide_eq_false (by omega)
    have eh : hK a = 0 := by unfold hK; rw [if_neg s]
    have eh' : hK (a + 1) = 0 := by unfold hK; rw [if_neg (by omega)]
    have em : mK a = (a : Int) := by unfold mK; rw [if_neg s]
    have em' : mK (a + 1) = (a : Int) + 1 := by unfold mK; rw [if_neg (by omega)]; rfl
    have hq := c40_4 (a : Int) (by omega) (by omega) w
    rw [and32 _ (by omega) (by omega), decide_eq_true (show (a : Int) < 4294967295 by omega), show ((a : Int) + 1) % 4294967296 = (a : Int) + 1 by omega] at hq
    rw [e, e', eh, eh', em, em']
    exact hq
theorem k40z (a : Nat) (o : okK a) (o' : ¬ okK (a + 1)) (w : World) : Calls Tryz.prog 40 #[.agg #[.bool (sK a), .int .u64 (hK a), .int .u64 (mK a)]] w fun e w' => e = .returned (.tuple #[.agg #[.bool (sK a), .int .u64 0, .int .u64 0], .bool false]) ∧ Plus w w' := by
  by_cases s : 8589934592 ≤ a
  · have e : sK a = true := decide_eq_true s
    have hq := c40_6 (hK a) (mK a) (hK_in a o) (mK_in a o) w
    have e1 : lo64 (hK a + hi64 (mK a + 1)) = 0 ∧ lo64 (mK a + 1) = 0 ∧ (hi64 (hK a + hi64 (mK a + 1)) == 0) = false := by
      unfold okK at o o'; unfold hK mK hi64 lo64
      rw [if_pos s, if_pos s, beq_eq_false_iff_ne]
      omega
    rw [e1.1, e1.2.1, e1.2.2] at hq
    rw [e]
    exact hq
  · have e : sK a = false := decide_eq_false s
    have h : a + 1 = 4294967296 := by unfold okK at o o'; omega
    have eh : hK a = 0 := by unfold hK; rw [if_neg s]
    have em : mK a = (a : Int) := by unfold mK; rw [if_neg s]
    have hq := c40_4 (a : Int) (by omega) (by omega) w
    rw [and32 _ (by omega) (by omega), decide_eq_false (show ¬ (a : Int) < 4294967295 by omega), show ((a : Int) + 1) % 4294967296 = 0 by omega] at hq
    rw [e, eh, em]
    exact hq
theorem k48s (a : Nat) (o : okK (a + 1)) (o' : okK a) (w : World) : Calls Tryz.prog 48 #[.agg #[.bool (sK (a + 1)), .int .u64 (hK (a + 1)), .int .u64 (mK (a + 1))]] w fun e w' => e = .returned (.tuple #[.agg #[.bool (sK a), .int .u64 (hK a), .int .u64 (mK a)], .bool true]) ∧ Plus w w' := by
  by_cases s : 8589934592 ≤ a
  · have e : sK a = true := decide_eq_true s
    have e' : sK (a + 1) = true := decide_eq_true (by omega)
    have hq := c48_6 (hK (a + 1)) (mK (a + 1)) (hK_in _ o) (mK_in _ o) w
    have e1 : lo64 (hK (a + 1) - bo64 (mK (a + 1)) 1) = hK a ∧ lo64 (mK (a + 1) - 1) = mK a ∧ (bo64 (hK (a + 1)) (bo64 (mK (a + 1)) 1) == 0) = true := by
      unfold okK at o o'; unfold hK mK bo64 lo64
      rw [if_pos s, if_pos s, if_pos (show 8589934592 ≤ a + 1 by omega), if_pos (show 8589934592 ≤ a + 1 by omega), beq_iff_eq]
      refine ⟨?_, ?_, ?_⟩ <;> (repeat' split) <;> omega
    rw [e1.1, e1.2.1, e1.2.2] at hq
    rw [e, e']
    exact hq
  · have e : sK a = false := decide_eq_false s
    have h : a + 1 < 4294967296 := by unfold okK at o'; unfold okK at o; omega
    have e' : sK (a + 1) = false := decide_eq_false (by omega)
    have eh : hK a = 0 := by unfold hK; rw [if_neg s]
    have eh' : hK (a + 1) = 0 := by unfold hK; rw [if_neg (by omega)]
    have em : mK a = (a : Int) := by unfold mK; rw [if_neg s]
    have em' : mK (a + 1) = (a : Int) + 1 := by unfold mK; rw [if_neg (by omega)]; rfl
    have hq := c48_4 ((a : Int) + 1) (by omega) (by omega) w
    rw [and32 _ (by omega) (by omega), decide_eq_true (show 0 < (a : Int) + 1 by omega), show ((a : Int) + 1 - 1) % 4294967296 = (a : Int) by omega] at hq
    rw [e, e', eh, eh', em, em']
    exact hq
theorem k48 (j : Nat) (hj : 0 < j) (o : okK j) (o' : okK (j - 1)) (w : World) : Calls Tryz.prog 48 #[.agg #[.bool (sK j), .int .u64 (hK j), .int .u64 (mK j)]] w fun e w' => e = .returned (.tuple #[.agg #[.bool (sK (j - 1)), .int .u64 (hK (j - 1)), .int .u64 (mK (j - 1))], .bool true]) ∧ Plus w w' := by
  obtain ⟨a, rfl⟩ : ∃ a, j = a + 1 := ⟨j - 1, by omega⟩
  rw [Nat.add_sub_cancel] at *
  exact k48s a o o' w
theorem k86y (x r : Nat × Nat) (ox : okK x.2) (ox' : okK (x.2 + 1)) (or : okK r.1) (b : Bool) (hb : decide (x.2 + 1 = r.1) = b) (w : World) : Calls Tryz.prog 86 #[.agg #[.bool (sK x.1), .int .u64 (hK x.1), .int .u64 (mK x.1), .bool (sK x.2), .int .u64 (hK x.2), .int .u64 (mK x.2)], .agg #[.bool (sK r.1), .int .u64 (hK r.1), .int .u64 (mK r.1), .bool (sK r.2), .int .u64 (hK r.2), .int .u64 (mK r.2)]] w fun e w' => e = .returned (.bool b) ∧ Plus w w' := by
  have OX2 := ox'
  clear ox'
  have hE := fun w => eq38 (x.2 + 1) r.1 OX2 or b hb w
  clear hb
  go_enter Tryz.func86, Tryz.ntmps86

  go_wp2_with (first | (go_at_call 40; (with_reducible refine (k40 _ ox OX2 _).mono ?_); rintro e w' ⟨rfl, dd, oo, rfl⟩))
  go_ret
  exact ⟨rfl, by repeat (first | exact Plus.refl _ | refine Plus.alloc ?_ _ | refine Plus.plus ?_ _ _ | refine Plus.drew ?_ | refine Plus.drewN ?_ _)⟩
theorem k86n (x r : Nat × Nat) (ox : okK x.2) (ox' : ¬ okK (x.2 + 1)) (w : World) : Calls Tryz.prog 86 #[.agg #[.bool (sK x.1), .int .u64 (hK x.1), .int .u64 (mK x.1), .bool (sK x.2), .int .u64 (hK x.2), .int .u64 (mK x.2)], .agg #[.bool (sK r.1), .int .u64 (hK r.1), .int .u64 (mK r.1), .bool (sK r.2), .int .u64 (hK r.2), .int .u64 (mK r.2)]] w fun e w' => e = .returned (.bool false) ∧ Plus w w' := by
  have HX : Hid _ := ox'
  clear ox'
  go_enter Tryz.func86, Tryz.ntmps86

  go_wp2_with (first | (go_at_call 40; (with_reducible refine (k40z _ ox HX.out _).mono ?_); rintro e w' ⟨rfl, dd, oo, rfl⟩))
  go_ret
  exact ⟨rfl, by repeat (first | exact Plus.refl _ | refine Plus.alloc ?_ _ | refine Plus.plus ?_ _ _ | refine Plus.drew ?_ | refine Plus.drewN ?_ _)⟩
theorem k86 (x r : Nat × Nat) (ox : okK x.2) (or : okK r.1) (b : Bool) (hb : decide (x.2 + 1 = r.1) = b) (w : World) : Calls Tryz.prog 86 #[.agg #[.bool (sK x.1), .int .u64 (hK x.1), .int .u64 (mK x.1), .bool (sK x.2), .int .u64 (hK x.2), .int .u64 (mK x.2)], .agg #[.bool (sK r.1), .int .u64 (hK r.1), .int .u64 (mK r.1), .bool (sK r.2), .int .u64 (hK r.2), .int .u64 (mK r.2)]] w fun e w' => e = .returned (.bool b) ∧ Plus w w' := by
  by_cases q : okK (x.2 + 1)
  · exact k86y x r ox q or b hb w
  · have : ¬ x.2 + 1 = r.1 := fun e => q (by rw [e]; exact or)
    rw [← hb, decide_eq_false this]
    exact k86n x r ox q w
end Go.Proofs.YtmoabfpdlbngeaaGreatDoor
end
