/-
  Part of the proofs on the laws of pub-addresssets: joined texts (A8, A9, A10).
-/
import Derived.Test.YtmoabfpdlbngeaaGreatDoorVA6
section
namespace Go.Proofs.YtmoabfpdlbngeaaGreatDoor
open Go.RowKit
set_option maxHeartbeats 400000
set_option linter.unusedVariables false
set_option linter.unusedSimpArgs false
theorem c166_false (hx lx n : Int) (n0 : 0 ≤ n) (n1 : n ≤ 32) (w : World) : Calls Tryz.prog 166 #[.agg #[.int .u64 hx, .int .u64 lx, .bool true, .bool false, .string ⟨#[]⟩], .int .i64 n] w fun e w' => e = .returned (.tuple #[.agg #[.int .u64 (bits .and .u64 hx (mkH6 (n + 96))), .int .u64 (bits .and .u64 lx (mkL6 (n + 96))), .bool true, .bool false, .string ⟨#[]⟩, .int .u8 (n + 1)], .nilIface]) ∧ Plus w w' := by
  go_enter Tryz.func166, Tryz.ntmps166
  go_wp2_with (first | (go_at_call 127; (with_reducible refine (c127 _).mono ?_); rintro e w' ⟨rfl, dd, oo, rfl⟩) | (go_at_call 128; (with_reducible refine (c128 _).mono ?_); rintro e w' ⟨rfl, dd, oo, rfl⟩))
  refine wp_region_plus_tail 6 (by kernel_rfl) (by kernel_rfl) ?_
  simp only [List.take_succ_cons, List.take_zero, List.drop_succ_cons, List.drop_zero]
  repeat (go_big_quiet_step (first | (go_at_call 189; exact Calls.plus_of (c189 _ _ _ _ _)) | (go_at_call 190; (with_reducible refine Calls.plus_of (c190 _ ?_ ?_ _)); all_goals (first | assumption | omega))))
  refine wpQuiet_nil ?_
  intro _ hq
  obtain ⟨⟨dq, oq⟩, rfl⟩ := hq
  go_wp2_with (first | (go_at_call 54; (with_reducible refine (c54_false _ _ _ ?_ ?_ _).mono ?_); (iterate 2 (first | assumption | omega)); rintro e w' ⟨rfl, dd, oo, rfl⟩) | (go_at_call 54; (with_reducible refine (c54_true _ _ _ ?_ ?_ _).mono ?_); (iterate 2 (first | assumption | omega)); rintro e w' ⟨rfl, dd, oo, rfl⟩))
  exact bodyPost_ret (v := .tuple #[.agg #[.int .u64 (bits .and .u64 hx (mkH6 (n + 96))), .int .u64 (bits .and .u64 lx (mkL6 (n + 96))), .bool true, .bool false, .string ⟨#[]⟩, .int .u8 (n + 1)], .nilIface]) (by simp [results, Tryz.results166, go_sem, IntWalk.iteOmega, ↓IntWalk.iteOmega]) rfl ⟨rfl, by repeat (first | exact Plus.refl _ | refine Plus.alloc ?_ _ | refine Plus.plus ?_ _ _ | refine Plus.drew ?_ | refine Plus.drewN ?_ _)⟩
theorem c166_true (hx lx n : Int) (n0 : 0 ≤ n) (n1 : n ≤ 128) (w : World) : Calls Tryz.prog 166 #[.agg #[.int .u64 hx, .int .u64 lx, .bool true, .bool true, .string ⟨#[]⟩], .int .i64 n] w fun e w' => e = .returned (.tuple #[.agg #[.int .u64 (bits .and .u64 hx (mkH6 n)), .int .u64 (bits .and .u64 lx (mkL6 n)), .bool true, .bool true, .string ⟨#[]⟩, .int .u8 (n + 1)], .nilIface]) ∧ Plus w w' := by
  go_enter Tryz.func166, Tryz.ntmps166
  go_wp2_with (first | (go_at_call 127; (with_reducible refine (c127 _).mono ?_); rintro e w' ⟨rfl, dd, oo, rfl⟩) | (go_at_call 128; (with_reducible refine (c128 _).mono ?_); rintro e w' ⟨rfl, dd, oo, rfl⟩))
  refine wp_region_plus_tail 6 (by kernel_rfl) (by kernel_rfl) ?_
  simp only [List.take_succ_cons, List.take_zero, List.drop_succ_cons, List.drop_zero]
  repeat (go_big_quiet_step (first | (go_at_call 189; exact Calls.plus_of (c189 _ _ _ _ _)) | (go_at_call 190; (with_reducible refine Calls.plus_of (c190 _ ?_ ?_ _)); all_goals (first | assumption | omega))))
  refine wpQuiet_nil ?_
  intro _ hq
  obtain ⟨⟨dq, oq⟩, rfl⟩ := hq
  go_wp2_with (first | (go_at_call 54; (with_reducible refine (c54_false _ _ _ ?_ ?_ _).mono ?_); (iterate 2 (first | assumption | omega)); rintro e w' ⟨rfl, dd, oo, rfl⟩) | (go_at_call 54; (with_reducible refine (c54_true _ _ _ ?_ ?_ _).mono ?_); (iterate 2 (first | assumption | omega)); rintro e w' ⟨rfl, dd, oo, rfl⟩))
  exact bodyPost_ret (v := .tuple #[.agg #[.int .u64 (bits .and .u64 hx (mkH6 n)), .int .u64 (bits .and .u64 lx (mkL6 n)), .bool true, .bool true, .string ⟨#[]⟩, .int .u8 (n + 1)], .nilIface]) (by simp [results, Tryz.results166, go_sem, IntWalk.iteOmega, ↓IntWalk.iteOmega]) rfl ⟨rfl, by repeat (first | exact Plus.refl _ | refine Plus.alloc ?_ _ | refine Plus.plus ?_ _ _ | refine Plus.drew ?_ | refine Plus.drewN ?_ _)⟩
theorem c136_false (hx lx b : Int) (n0 : 1 ≤ b) (n1 : b ≤ 33) (w : World) : Calls Tryz.prog 136 #[.agg #[.int .u64 hx, .int .u64 lx, .bool true, .bool false, .string ⟨#[]⟩, .int .u8 b]] w fun e w' => e = .returned (.agg #[.int .u64 (bits .and .u64 hx (mkH6 (b - 1 + 96))), .int .u64 (bits .and .u64 lx (mkL6 (b - 1 + 96))), .bool true, .bool false, .string ⟨#[]⟩, .int .u8 b]) ∧ Plus w w' := by
  have hb : b - 1 + 1 = b := by omega
  go_enter Tryz.func136, Tryz.ntmps136
  go_wp2_with fail
  go_region_held3 (fun w' => KS (((w.alloc (.cells #[.int .u64 hx, .int .u64 lx, .bool true, .bool false, .string ⟨#[]⟩, .int .u8 b] 93)).alloc (.cells #[.int .u64 0, .int .u64 0, .bool false, .bool false, .string ⟨#[]⟩, .int .u8 0] 93))) w') (repeat (first | exact KS.refl _ | assumption | apply KS.drew | apply KS.plus | apply KS.alloc | (refine KS.setCell ?_ _ _ _ (by first | (simp; done) | (simp; omega))))) (first | (go_at_call 166; (with_reducible refine (c166_false _ _ _ (by omega) (by omega) _).mono ?_); rintro e w' ⟨rfl, dd, oo, rfl⟩) | (go_at_call 44; (with_reducible refine (c44 _ _ _ _ ?_ ?_ _).mono ?_); (iterate 2 (first | assumption | omega)); rintro e w' ⟨rfl, dd, oo, rfl⟩))
  all_goals go_wp2_with fail
  all_goals exact bodyPost_ret (v := .agg #[.int .u64 (bits .and .u64 hx (mkH6 (b - 1 + 96))), .int .u64 (bits .and .u64 lx (mkL6 (b - 1 + 96))), .bool true, .bool false, .string ⟨#[]⟩, .int .u8 b]) (by simp [results, Tryz.results136, go_sem, IntWalk.iteOmega, ↓IntWalk.iteOmega]) rfl ⟨rfl, by repeat (first | exact Plus.refl _ | refine Plus.alloc ?_ _ | refine Plus.plus ?_ _ _ | refine Plus.drew ?_ | refine Plus.drewN ?_ _)⟩
theorem c136_true (hx lx b : Int) (n0 : 1 ≤ b) (n1 : b ≤ 129) (w : World) : Calls Tryz.prog 136 #[.agg #[.int .u64 hx, .int .u64 lx, .bool true, .bool true, .string ⟨#[]⟩, .int .u8 b]] w fun e w' => e = .returned (.agg #[.int .u64 (bits .and .u64 hx (mkH6 (b - 1))), .int .u64 (bits .and .u64 lx (mkL6 (b - 1))), .bool true, .bool true, .string ⟨#[]⟩, .int .u8 b]) ∧ Plus w w' := by
  have hb : b - 1 + 1 = b := by omega
  go_enter Tryz.func136, Tryz.ntmps136
  go_wp2_with fail
  go_region_held3 (fun w' => KS (((w.alloc (.cells #[.int .u64 hx, .int .u64 lx, .bool true, .bool true, .string ⟨#[]⟩, .int .u8 b] 93)).alloc (.cells #[.int .u64 0, .int .u64 0, .bool false, .bool false, .string ⟨#[]⟩, .int .u8 0] 93))) w') (repeat (first | exact KS.refl _ | assumption | apply KS.drew | apply KS.plus | apply KS.alloc | (refine KS.setCell ?_ _ _ _ (by first | (simp; done) | (simp; omega))))) (first | (go_at_call 166; (with_reducible refine (c166_true _ _ _ (by omega) (by omega) _).mono ?_); rintro e w' ⟨rfl, dd, oo, rfl⟩) | (go_at_call 44; (with_reducible refine (c44 _ _ _ _ ?_ ?_ _).mono ?_); (iterate 2 (first | assumption | omega)); rintro e w' ⟨rfl, dd, oo, rfl⟩))
  all_goals go_wp2_with fail
  all_goals exact bodyPost_ret (v := .agg #[.int .u64 (bits .and .u64 hx (mkH6 (b - 1))), .int .u64 (bits .and .u64 lx (mkL6 (b - 1))), .bool true, .bool true, .string ⟨#[]⟩, .int .u8 b]) (by simp [results, Tryz.results136, go_sem, IntWalk.iteOmega, ↓IntWalk.iteOmega]) rfl ⟨rfl, by repeat (first | exact Plus.refl _ | refine Plus.alloc ?_ _ | refine Plus.plus ?_ _ _ | refine Plus.drew ?_ | refine Plus.drewN ?_ _)⟩
def mkH (n : Int) : Int := if n ≤ 64 then IntKind.u64.wrap (18446744073709551615 * 2 ^ (64 - n).toNat) else 18446744073709551615
def mkL (n : Int) : Int := if n ≤ 64 then 0 else IntKind.u64.wrap (18446744073709551615 * 2 ^ (128 - n).toNat)
theorem c139 (n : Int) (h0 : 0 ≤ n) (h1 : n ≤ 128) (w : World) : Calls Tryz.prog 139 #[.int .u8 n] w fun e w' => e = .returned (.agg #[.int .u64 (mkH n), .int .u64 (mkL n)]) ∧ Plus w w' := by
  by_cases q : n ≤ 64
  · go_enter Tryz.func139, Tryz.ntmps139
    go_wp2_with fail
    exact bodyPost_ret (v := .agg #[.int .u64 (mkH n), .int .u64 (mkL n)]) (by simp [results, Tryz.results139, go_sem, IntWalk.iteOmega, ↓IntWalk.iteOmega, mkH, mkL, q]) rfl ⟨rfl, by repeat (first | exact Plus.refl _ | refine Plus.alloc ?_ _ | refine Plus.plus ?_ _ _ | refine Plus.drew ?_ | refine Plus.drewN ?_ _)⟩

  · go_enter Tryz.func139, Tryz.ntmps139
    go_wp2_with fail
    exact bodyPost_ret (v := .agg #[.int .u64 (mkH n), .int .u64 (mkL n)]) (by simp [results, Tryz.results139, go_sem, IntWalk.iteOmega, ↓IntWalk.iteOmega, mkH, mkL, q]) rfl ⟨rfl, by repeat (first | exact Plus.refl _ | refine Plus.alloc ?_ _ | refine Plus.plus ?_ _ _ | refine Plus.drew ?_ | refine Plus.drewN ?_ _)⟩

theorem c169 (hx lx n : Int) (h0 : 0 ≤ n) (h1 : n ≤ 128) (w : World) : Calls Tryz.prog 169 #[.agg #[.int .u64 hx, .int .u64 lx], .int .u8 n] w fun e w' => e = .returned (.agg #[.int .u64 (bits .or .u64 hx (nt64 (mkH n))), .int .u64 (bits .or .u64 lx (nt64 (mkL n)))]) ∧ Plus w w' := by
  go_enter Tryz.func169, Tryz.ntmps169
  go_wp2_with fail
  refine wp_region_plus_tail 5 (by kernel_rfl) (by kernel_rfl) ?_
  simp only [List.take_succ_cons, List.take_zero, List.drop_succ_cons, List.drop_zero]
  repeat (go_big_quiet_step (first | (go_at_call 139; (with_reducible refine Calls.plus_of (c139 _ ?_ ?_ _)); all_goals (first | assumption | omega)) | (go_at_call 192; exact Calls.plus_of (c192 _ _ _)) | (go_at_call 143; exact Calls.plus_of (c143 _ _ _ _ _))))
  refine wpQuiet_nil ?_
  intro _ hq
  obtain ⟨⟨dq, oq⟩, rfl⟩ := hq
  go_wp2_with fail
  exact bodyPost_ret (v := .agg #[.int .u64 (bits .or .u64 hx (nt64 (mkH n))), .int .u64 (bits .or .u64 lx (nt64 (mkL n)))]) (by simp [results, Tryz.results169, go_sem, IntWalk.iteOmega, ↓IntWalk.iteOmega]) rfl ⟨rfl, by repeat (first | exact Plus.refl _ | refine Plus.alloc ?_ _ | refine Plus.plus ?_ _ _ | refine Plus.drew ?_ | refine Plus.drewN ?_ _)⟩
theorem c170 (hx lx n : Int) (h0 : 0 ≤ n) (h1 : n ≤ 128) (w : World) : Calls Tryz.prog 170 #[.agg #[.int .u64 hx, .int .u64 lx], .int .u8 n] w fun e w' => e = .returned (.agg #[.int .u64 (bits .and .u64 hx (mkH n)), .int .u64 (bits .and .u64 lx (mkL n))]) ∧ Plus w w' := by
  go_enter Tryz.func170, Tryz.ntmps170
  go_wp2_with fail
  refine wp_region_plus_tail 4 (by kernel_rfl) (by kernel_rfl) ?_
  simp only [List.take_succ_cons, List.take_zero, List.drop_succ_cons, List.drop_zero]
  repeat (go_big_quiet_step (first | (go_at_call 139; (with_reducible refine Calls.plus_of (c139 _ ?_ ?_ _)); all_goals (first | assumption | omega)) | (go_at_call 141; exact Calls.plus_of (c141 _ _ _ _ _))))
  refine wpQuiet_nil ?_
  intro _ hq
  obtain ⟨⟨dq, oq⟩, rfl⟩ := hq
  go_wp2_with fail
  exact bodyPost_ret (v := .agg #[.int .u64 (bits .and .u64 hx (mkH n)), .int .u64 (bits .and .u64 lx (mkL n))]) (by simp [results, Tryz.results170, go_sem, IntWalk.iteOmega, ↓IntWalk.iteOmega]) rfl ⟨rfl, by repeat (first | exact Plus.refl _ | refine Plus.alloc ?_ _ | refine Plus.plus ?_ _ _ | refine Plus.drew ?_ | refine Plus.drewN ?_ _)⟩
def lz (x : Int) : Int := 64 - (Lib.bitLen x.toNat : Int)
theorem bitLen_le (x : Nat) : Lib.bitLen x ≤ 64 := by
  have h : ∀ k y, Lib.bitLenAux k y ≤ k := by
    intro k
    induction k with
    | zero => intro y; simp [Lib.bitLenAux]
    | succ k ih =>
      intro y
      unfold Lib.bitLenAux
      split
      · omega
      · have := ih (y / 2)
        omega
  exact h 64 x
theorem lz_in (x : Int) : 0 ≤ lz x ∧ lz x ≤ 64 := by
  unfold lz
  have := bitLen_le x.toNat
  omega
theorem c191 (x : Int) (h0 : 0 ≤ x) (h1 : x ≤ 18446744073709551615) (w : World) : Calls Tryz.prog 191 #[.int .u64 x] w fun e w' => e = .returned (.int .i64 (lz x)) ∧ w = w' :=
  (Tryz.bits_LeadingZeros64 x w h0 h1).mono fun _ _ ⟨a, b⟩ => ⟨a, b.symm⟩
theorem c167 (x y : Int) (hx : Hid (0 ≤ bits .xor .u64 x y ∧ bits .xor .u64 x y ≤ 18446744073709551615)) (w : World) : Calls Tryz.prog 167 #[.int .u64 x, .int .u64 y] w fun e w' => e = .returned (.int .u8 (lz (bits .xor .u64 x y))) ∧ Plus w w' := by
  have hz := lz_in (bits .xor .u64 x y)
  have z0 := hz.1
  have z1 := hz.2
  clear hz
  go_enter Tryz.func167, Tryz.ntmps167
  go_wp2_with (go_at_call 191; (with_reducible refine (c191 _ hx.out.1 hx.out.2 _).mono ?_); rintro e w' ⟨rfl, rfl⟩)
  go_ret
  exact ⟨rfl, Plus.refl _⟩
end Go.Proofs.YtmoabfpdlbngeaaGreatDoor
end

section
namespace Go.Proofs.YtmoabfpdlbngeaaGreatDoor
open Go.RowKit
set_option maxHeartbeats 400000
set_option linter.unusedVariables false
set_option linter.unusedSimpArgs false
theorem xor_in (x y : Int) (x0 : 0 ≤ x) (x1 : x < 18446744073709551616) (y0 : 0 ≤ y) (y1 : y < 18446744073709551616) : 0 ≤ bits .xor .u64 x y ∧ bits .xor .u64 x y ≤ 18446744073709551615 := by
  obtain ⟨X, rfl⟩ := Int.eq_ofNat_of_zero_le x0
  obtain ⟨Y, rfl⟩ := Int.eq_ofNat_of_zero_le y0
  rw [u64_xor_nat X Y (by omega) (by omega)]
  have : X ^^^ Y < 2 ^ 64 := Nat.xor_lt_two_pow (by omega) (by omega)
  omega
/-- a number of 64 bits -/
def W64 (x : Int) : Prop := 0 ≤ x ∧ x < 18446744073709551616
theorem W64.xor {x y : Int} (h : W64 x) (k : W64 y) : Hid (0 ≤ bits .xor .u64 x y ∧ bits .xor .u64 x y ≤ 18446744073709551615) := xor_in x y h.1 h.2 k.1 k.2
def cpl (h1 l1 h2 l2 : Int) : Int := if lz (bits .xor .u64 h1 h2) = 64 then 64 + lz (bits .xor .u64 l1 l2) else lz (bits .xor .u64 h1 h2)
theorem cpl_in (h1 l1 h2 l2 : Int) : 0 ≤ cpl h1 l1 h2 l2 ∧ cpl h1 l1 h2 l2 ≤ 128 := by
  unfold cpl
  have := lz_in (bits .xor .u64 h1 h2)
  have := lz_in (bits .xor .u64 l1 l2)
  split <;> omega
theorem c138 (h1 l1 h2 l2 : Int) (wh1 : W64 h1) (wl1 : W64 l1) (wh2 : W64 h2) (wl2 : W64 l2) (w : World) : Calls Tryz.prog 138 #[.agg #[.int .u64 h1, .int .u64 l1], .agg #[.int .u64 h2, .int .u64 l2]] w fun e w' => e = .returned (.int .u8 (cpl h1 l1 h2 l2)) ∧ Plus w w' := by
  have z0 := (lz_in (bits .xor .u64 h1 h2)).1
  have z1 := (lz_in (bits .xor .u64 h1 h2)).2
  have z2 := (lz_in (bits .xor .u64 l1 l2)).1
  have z3 := (lz_in (bits .xor .u64 l1 l2)).2
  have X1 := wh1.xor wh2
  have X2 := wl1.xor wl2
  clear wh1 wl1 wh2 wl2
  by_cases q : lz (bits .xor .u64 h1 h2) = 64
  · have q1 : (lz (bits .xor .u64 h1 h2) == 64) = true := by simpa using q
    have Q : Hid _ := q
    clear q
    go_enter Tryz.func138, Tryz.ntmps138
    go_wp2_with (first | (go_at_call 167; (with_reducible refine (c167 _ _ X1 _).mono ?_); rintro e w' ⟨rfl, dd, oo, rfl⟩) | (go_at_call 167; (with_reducible refine (c167 _ _ X2 _).mono ?_); rintro e w' ⟨rfl, dd, oo, rfl⟩))
    go_ret
    exact ⟨by rw [cpl, if_pos Q.out, ← Q.out]; rfl, by repeat (first | exact Plus.refl _ | refine Plus.alloc ?_ _ | refine Plus.plus ?_ _ _ | refine Plus.drew ?_ | refine Plus.drewN ?_ _)⟩
  · have q1 : (lz (bits .xor .u64 h1 h2) == 64) = false := by simpa using q
    have Q : Hid _ := q
    clear q
    go_enter Tryz.func138, Tryz.ntmps138
    go_wp2_with (first | (go_at_call 167; (with_reducible refine (c167 _ _ X1 _).mono ?_); rintro e w' ⟨rfl, dd, oo, rfl⟩) | (go_at_call 167; (with_reducible refine (c167 _ _ X2 _).mono ?_); rintro e w' ⟨rfl, dd, oo, rfl⟩))
    go_ret
    exact ⟨by rw [cpl, if_neg Q.out]; rfl, by repeat (first | exact Plus.refl _ | refine Plus.alloc ?_ _ | refine Plus.plus ?_ _ _ | refine Plus.drew ?_ | refine Plus.drewN ?_ _)⟩
theorem eq156 (a b c d : Int) (w : World) : (binOp .eql 156 (.agg #[.int .u64 a, .int .u64 b]) (.agg #[.int .u64 c, .int .u64 d])).run Tryz.prog w = .ok (.bool (a == c && b == d)) w := by
  by_cases h1 : a = c <;> by_cases h2 : b = d <;> simp [go_sem, h1, h2]
def cpB (h2 l2 m : Int) : Bool := (bits .or .u64 h2 (mkH m) == 18446744073709551615) && (bits .or .u64 l2 (mkL m) == 18446744073709551615)
theorem eq156m (h2 l2 m : Int) (w : World) : (binOp .eql 156 (.agg #[.int .u64 (bits .or .u64 h2 (mkH m)), .int .u64 (bits .or .u64 l2 (mkL m))]) (.agg #[.int .u64 18446744073709551615, .int .u64 18446744073709551615])).run Tryz.prog w = .ok (.bool (cpB h2 l2 m)) w := eq156 _ _ _ _ w
def cpA (h1 l1 m : Int) : Bool := bits .or .u64 (bits .xor .u64 h1 (bits .and .u64 h1 (mkH m))) (bits .xor .u64 l1 (bits .and .u64 l1 (mkL m))) == 0
theorem c142n (h1 l1 m : Int) (b : Bool) (hA : cpA h1 l1 m = b) (w : World) : Calls Tryz.prog 142 #[.agg #[.int .u64 (bits .xor .u64 h1 (bits .and .u64 h1 (mkH m))), .int .u64 (bits .xor .u64 l1 (bits .and .u64 l1 (mkL m)))]] w fun e w' => e = .returned (.bool b) ∧ Plus w w' := by
  subst hA
  exact c142 _ _ w
def cpZ (h1 l1 h2 l2 : Int) : Bool := if cpl h1 l1 h2 l2 = 128 then true else cpA h1 l1 (cpl h1 l1 h2 l2) && cpB h2 l2 (cpl h1 l1 h2 l2)
theorem c110 (h1 l1 h2 l2 : Int) (wh1 : W64 h1) (wl1 : W64 l1) (wh2 : W64 h2) (wl2 : W64 l2) (w : World) : Calls Tryz.prog 110 #[.agg #[.int .u64 h1, .int .u64 l1], .agg #[.int .u64 h2, .int .u64 l2]] w fun e w' => e = .returned (.tuple #[.int .u8 (cpl h1 l1 h2 l2), .bool (cpZ h1 l1 h2 l2)]) ∧ Plus w w' := by
  have z0 := (cpl_in h1 l1 h2 l2).1
  have z1 := (cpl_in h1 l1 h2 l2).2
  by_cases q : cpl h1 l1 h2 l2 = 128
  · have q1 : (cpl h1 l1 h2 l2 == 128) = true := by simpa using q
    have Q : Hid _ := q
    clear q
    go_enter Tryz.func110, Tryz.ntmps110
    go_wp2_with (first | (go_at_call 138; (with_reducible refine (c138 _ _ _ _ wh1 wl1 wh2 wl2 _).mono ?_); rintro e w' ⟨rfl, dd, oo, rfl⟩))
    go_ret2
    exact ⟨by rw [cpZ, if_pos Q.out]; rfl, by repeat (first | exact Plus.refl _ | refine Plus.alloc ?_ _ | refine Plus.plus ?_ _ _ | refine Plus.drew ?_ | refine Plus.drewN ?_ _)⟩
  · have q1 : (cpl h1 l1 h2 l2 == 128) = false := by simpa using q
    have Q : Hid _ := q
    clear q
    cases hA : cpA h1 l1 (cpl h1 l1 h2 l2)
    · go_enter Tryz.func110, Tryz.ntmps110
      go_wp2_with (first | (go_at_call 138; (with_reducible refine (c138 _ _ _ _ wh1 wl1 wh2 wl2 _).mono ?_); rintro e w' ⟨rfl, dd, oo, rfl⟩) | (go_at_call 139; (with_reducible refine (c139 _ ?_ ?_ _).mono ?_); (iterate 2 (first | assumption | omega)); rintro e w' ⟨rfl, dd, oo, rfl⟩))
      refine wp_region_plus (by kernel_rfl) (by kernel_rfl) ?_
      repeat (go_big_quiet_step (first | (go_at_call 142; exact Calls.plus_of (c142n _ _ _ _ hA _)) | (go_at_call 141; exact Calls.plus_of (c141 _ _ _ _ _)) | (go_at_call 140; exact Calls.plus_of (c140 _ _ _ _ _)) | (go_at_call 143; exact Calls.plus_of (c143 _ _ _ _ _))))
      refine wpQuiet_nil ?_
      intro _ hq
      obtain ⟨⟨dq, oq⟩, rfl⟩ := hq
      go_wp2_with fail
      go_ret2
      exact ⟨by rw [cpZ, if_neg Q.out, hA]; rfl, by repeat (first | exact Plus.refl _ | refine Plus.alloc ?_ _ | refine Plus.plus ?_ _ _ | refine Plus.drew ?_ | refine Plus.drewN ?_ _)⟩

    · have hB := eq156m h2 l2 (cpl h1 l1 h2 l2)
      go_enter Tryz.func110, Tryz.ntmps110
      go_wp2_with (first | (go_at_call 138; (with_reducible refine (c138 _ _ _ _ wh1 wl1 wh2 wl2 _).mono ?_); rintro e w' ⟨rfl, dd, oo, rfl⟩) | (go_at_call 139; (with_reducible refine (c139 _ ?_ ?_ _).mono ?_); (iterate 2 (first | assumption | omega)); rintro e w' ⟨rfl, dd, oo, rfl⟩))
      refine wp_region_plus (by kernel_rfl) (by kernel_rfl) ?_
      repeat (go_big_quiet_step (first | (go_at_call 142; exact Calls.plus_of (c142n _ _ _ _ hA _)) | (go_at_call 141; exact Calls.plus_of (c141 _ _ _ _ _)) | (go_at_call 140; exact Calls.plus_of (c140 _ _ _ _ _)) | (go_at_call 143; exact Calls.plus_of (c143 _ _ _ _ _))))
      refine wpQuiet_nil ?_
      intro _ hq
      obtain ⟨⟨dq, oq⟩, rfl⟩ := hq
      go_wp2_with fail
      go_ret2
      exact ⟨by rw [cpZ, if_neg Q.out, hA]; rfl, by repeat (first | exact Plus.refl _ | refine Plus.alloc ?_ _ | refine Plus.plus ?_ _ _ | refine Plus.drew ?_ | refine Plus.drewN ?_ _)⟩

theorem c144n (hx lx : Int) (w : World) : Calls Tryz.prog 144 #[.agg #[.int .u64 hx, .int .u64 lx]] w fun e w' => e = .returned (.agg #[.int .u64 0, .int .u64 (281470681743360 + lx % 4294967296), .bool true, .bool false, .string ⟨#[]⟩]) ∧ Plus w w' := by
  have hq := c144 hx lx w
  rwa [v4lo_bytes] at hq
theorem c145n (hx lx : Int) (wh : W64 hx) (wl : W64 lx) (w : World) : Calls Tryz.prog 145 #[.agg #[.int .u64 hx, .int .u64 lx]] w fun e w' => e = .returned (.agg #[.int .u64 hx, .int .u64 lx, .bool true, .bool true, .string ⟨#[]⟩]) ∧ Plus w w' := by
  have hq := c145 hx lx w
  rwa [sh8_bytes hx wh.1 wh.2, sh8_bytes lx wl.1 wl.2] at hq
theorem c111_4 (h1 l1 h2 l2 : Int) (hx lx b : Int) (b0 : 96 ≤ b) (b1 : b ≤ 128) (w : World) : Calls Tryz.prog 111 #[.agg #[.int .u64 h1, .int .u64 l1, .bool true, .bool false, .string ⟨#[]⟩, .int .u64 h2, .int .u64 l2, .bool true, .bool false, .string ⟨#[]⟩], .agg #[.int .u64 hx, .int .u64 lx], .int .u8 b] w fun e w' => e = .returned (.agg #[.int .u64 0, .int .u64 (281470681743360 + lx % 4294967296), .bool true, .bool false, .string ⟨#[]⟩, .int .u8 (b - 96 + 1)]) ∧ Plus w w' := by
  go_enter Tryz.func111, Tryz.ntmps111
  go_wp2_with (first | (go_at_call 121; (with_reducible refine (c121 _ _ _ _).mono ?_); rintro e w' ⟨rfl, dd, oo, rfl⟩) | (go_at_call 144; (with_reducible refine (c144n _ _ _).mono ?_); rintro e w' ⟨rfl, dd, oo, rfl⟩) | (go_at_call 54; (with_reducible refine (c54_false _ _ _ ?_ ?_ _).mono ?_); (iterate 2 (first | assumption | omega)); rintro e w' ⟨rfl, dd, oo, rfl⟩) | (go_at_call 54; (with_reducible refine (c54_true _ _ _ ?_ ?_ _).mono ?_); (iterate 2 (first | assumption | omega)); rintro e w' ⟨rfl, dd, oo, rfl⟩))
  exact bodyPost_ret (v := .agg #[.int .u64 0, .int .u64 (281470681743360 + lx % 4294967296), .bool true, .bool false, .string ⟨#[]⟩, .int .u8 (b - 96 + 1)]) (by simp [results, Tryz.results111, go_sem, IntWalk.iteOmega, ↓IntWalk.iteOmega]) rfl ⟨rfl, by repeat (first | exact Plus.refl _ | refine Plus.alloc ?_ _ | refine Plus.plus ?_ _ _ | refine Plus.drew ?_ | refine Plus.drewN ?_ _)⟩
theorem c111_6 (h1 l1 h2 l2 : Int) (hx lx b : Int) (wh : W64 hx) (wl : W64 lx) (b0 : 0 ≤ b) (b1 : b ≤ 128) (w : World) : Calls Tryz.prog 111 #[.agg #[.int .u64 h1, .int .u64 l1, .bool true, .bool true, .string ⟨#[]⟩, .int .u64 h2, .int .u64 l2, .bool true, .bool true, .string ⟨#[]⟩], .agg #[.int .u64 hx, .int .u64 lx], .int .u8 b] w fun e w' => e = .returned (.agg #[.int .u64 hx, .int .u64 lx, .bool true, .bool true, .string ⟨#[]⟩, .int .u8 (b + 1)]) ∧ Plus w w' := by
  go_enter Tryz.func111, Tryz.ntmps111
  go_wp2_with (first | (go_at_call 145; (with_reducible refine (c145n _ _ wh wl _).mono ?_); rintro e w' ⟨rfl, dd, oo, rfl⟩) | (go_at_call 121; (with_reducible refine (c121 _ _ _ _).mono ?_); rintro e w' ⟨rfl, dd, oo, rfl⟩) | (go_at_call 54; (with_reducible refine (c54_false _ _ _ ?_ ?_ _).mono ?_); (iterate 2 (first | assumption | omega)); rintro e w' ⟨rfl, dd, oo, rfl⟩) | (go_at_call 54; (with_reducible refine (c54_true _ _ _ ?_ ?_ _).mono ?_); (iterate 2 (first | assumption | omega)); rintro e w' ⟨rfl, dd, oo, rfl⟩))
  exact bodyPost_ret (v := .agg #[.int .u64 hx, .int .u64 lx, .bool true, .bool true, .string ⟨#[]⟩, .int .u8 (b + 1)]) (by simp [results, Tryz.results111, go_sem, IntWalk.iteOmega, ↓IntWalk.iteOmega]) rfl ⟨rfl, by repeat (first | exact Plus.refl _ | refine Plus.alloc ?_ _ | refine Plus.plus ?_ _ _ | refine Plus.drew ?_ | refine Plus.drewN ?_ _)⟩
end Go.Proofs.YtmoabfpdlbngeaaGreatDoor
end

section
namespace Go.Proofs.YtmoabfpdlbngeaaGreatDoor
open Go.RowKit
set_option maxHeartbeats 400000
set_option linter.unusedVariables false
set_option linter.unusedSimpArgs false
theorem c108n (hx lx : Int) (wh : W64 hx) (wl : W64 lx) (w : World) : Calls Tryz.prog 108 #[.agg #[.int .u8 (hx / 72057594037927936 % 256), .int .u8 (hx / 281474976710656 % 256), .int .u8 (hx / 1099511627776 % 256), .int .u8 (hx / 4294967296 % 256), .int .u8 (hx / 16777216 % 256), .int .u8 (hx / 65536 % 256), .int .u8 (hx / 256 % 256), .int .u8 (hx % 256), .int .u8 (lx / 72057594037927936 % 256), .int .u8 (lx / 281474976710656 % 256), .int .u8 (lx / 1099511627776 % 256), .int .u8 (lx / 4294967296 % 256), .int .u8 (lx / 16777216 % 256), .int .u8 (lx / 65536 % 256), .int .u8 (lx / 256 % 256), .int .u8 (lx % 256)]] w fun e w' => e = .returned (.agg #[.int .u64 hx, .int .u64 lx]) ∧ Plus w w' := by
  have hq := c108 (hx / 72057594037927936 % 256) (hx / 281474976710656 % 256) (hx / 1099511627776 % 256) (hx / 4294967296 % 256) (hx / 16777216 % 256) (hx / 65536 % 256) (hx / 256 % 256) (hx % 256) (lx / 72057594037927936 % 256) (lx / 281474976710656 % 256) (lx / 1099511627776 % 256) (lx / 4294967296 % 256) (lx / 16777216 % 256) (lx / 65536 % 256) (lx / 256 % 256) (lx % 256) w
  rwa [be64_bytes hx wh.1 wh.2, be64_bytes lx wl.1 wl.2] at hq
def pvH (h l : Int) : Int := IntKind.u64.wrap (h - bo64 l 1)
def pvL (l : Int) : Int := lo64 (l - 1)
theorem pvH_in (h l : Int) : W64 (pvH h l) := by
  unfold pvH
  rw [wrap_u64]
  exact ⟨by omega, by omega⟩
theorem pvL_in (l : Int) : W64 (pvL l) := by
  unfold pvL lo64
  exact ⟨by omega, by omega⟩
theorem c186n (hx lx : Int) (wl : W64 lx) (w : World) : Calls Tryz.prog 186 #[.agg #[.int .u64 hx, .int .u64 lx]] w fun e w' => e = .returned (.agg #[.int .u64 (pvH hx lx), .int .u64 (pvL lx)]) ∧ Plus w w' := c186 hx lx wl.1 w
theorem x162_4 (hx lx : Int) (wh : W64 hx) (wl : W64 lx) (hz : (lx % 4294967296 == 0) = false) (w : World) : Calls Tryz.prog 162 #[.agg #[.int .u64 hx, .int .u64 lx, .bool true, .bool false, .string ⟨#[]⟩]] w fun e w' => e = .returned (.agg #[.int .u64 0, .int .u64 (281470681743360 + pvL lx % 4294967296), .bool true, .bool false, .string ⟨#[]⟩]) ∧ Plus w w' := by
  go_enter Tryz.func162, Tryz.ntmps162
  go_wp2_with (first | (go_at_call 108; (with_reducible refine (c108n _ _ wh wl _).mono ?_); rintro e w' ⟨rfl, dd, oo, rfl⟩) | (go_at_call 186; (with_reducible refine (c186n _ _ wl _).mono ?_); rintro e w' ⟨rfl, dd, oo, rfl⟩) | (go_at_call 109; (with_reducible refine (c109 _ _ _ _).mono ?_); rintro e w' ⟨rfl, dd, oo, rfl⟩) | (go_at_call 121; (with_reducible refine (c121 _ _ _ _).mono ?_); rintro e w' ⟨rfl, dd, oo, rfl⟩) | (go_at_call 144; (with_reducible refine (c144n _ _ _).mono ?_); rintro e w' ⟨rfl, dd, oo, rfl⟩))
  exact bodyPost_ret (v := .agg #[.int .u64 0, .int .u64 (281470681743360 + pvL lx % 4294967296), .bool true, .bool false, .string ⟨#[]⟩]) (by simp [results, Tryz.results162, go_sem, IntWalk.iteOmega, ↓IntWalk.iteOmega]) rfl ⟨rfl, by repeat (first | exact Plus.refl _ | refine Plus.alloc ?_ _ | refine Plus.plus ?_ _ _ | refine Plus.drew ?_ | refine Plus.drewN ?_ _)⟩
theorem c142z (hx lx : Int) (b : Bool) (hz : (bits .or .u64 hx lx == 0) = b) (w : World) : Calls Tryz.prog 142 #[.agg #[.int .u64 hx, .int .u64 lx]] w fun e w' => e = .returned (.bool b) ∧ Plus w w' := by
  subst hz
  exact c142 _ _ w
theorem c162_6 (hx lx : Int) (wh : W64 hx) (wl : W64 lx) (hz : (bits .or .u64 hx lx == 0) = false) (w : World) : Calls Tryz.prog 162 #[.agg #[.int .u64 hx, .int .u64 lx, .bool true, .bool true, .string ⟨#[]⟩]] w fun e w' => e = .returned (.agg #[.int .u64 (pvH hx lx), .int .u64 (pvL lx), .bool true, .bool true, .string ⟨#[]⟩]) ∧ Plus w w' := by
  go_enter Tryz.func162, Tryz.ntmps162
  go_wp2_with (first | (go_at_call 108; (with_reducible refine (c108n _ _ wh wl _).mono ?_); rintro e w' ⟨rfl, dd, oo, rfl⟩) | (go_at_call 142; (with_reducible refine (c142z _ _ _ hz _).mono ?_); rintro e w' ⟨rfl, dd, oo, rfl⟩) | (go_at_call 109; (with_reducible refine (c109 _ _ _ _).mono ?_); rintro e w' ⟨rfl, dd, oo, rfl⟩) | (go_at_call 121; (with_reducible refine (c121 _ _ _ _).mono ?_); rintro e w' ⟨rfl, dd, oo, rfl⟩))
  refine wp_region_plus_tail 6 (by kernel_rfl) (by kernel_rfl) ?_
  simp only [List.take_succ_cons, List.take_zero, List.drop_succ_cons, List.drop_zero]
  repeat (go_big_quiet_step (first | (go_at_call 186; exact Calls.plus_of (c186n _ _ wl _)) | (go_at_call 145; exact Calls.plus_of (c145n _ _ (pvH_in _ _) (pvL_in _) _)) | (go_at_call 99; exact Calls.plus_of (c99 _ _ _ _)) | (go_at_call 95; exact Calls.plus_of (c95 _ _ _ _))))
  refine wpQuiet_nil ?_
  intro _ hq
  obtain ⟨⟨dq, oq⟩, rfl⟩ := hq
  go_wp2_with fail
  exact bodyPost_ret (v := .agg #[.int .u64 (pvH hx lx), .int .u64 (pvL lx), .bool true, .bool true, .string ⟨#[]⟩]) (by simp [results, Tryz.results162, go_sem, IntWalk.iteOmega, ↓IntWalk.iteOmega]) rfl ⟨rfl, by repeat (first | exact Plus.refl _ | refine Plus.alloc ?_ _ | refine Plus.plus ?_ _ _ | refine Plus.drew ?_ | refine Plus.drewN ?_ _)⟩
def arr16 (f : Nat → Int) : Array Value := #[.int .u8 (f 0), .int .u8 (f 1), .int .u8 (f 2), .int .u8 (f 3), .int .u8 (f 4), .int .u8 (f 5), .int .u8 (f 6), .int .u8 (f 7), .int .u8 (f 8), .int .u8 (f 9), .int .u8 (f 10), .int .u8 (f 11), .int .u8 (f 12), .int .u8 (f 13), .int .u8 (f 14), .int .u8 (f 15)]
theorem arr16_get (f : Nat → Int) (i : Nat) : (arr16 f)[i]? = if i < 16 then some (.int .u8 (f i)) else none := by
  by_cases h : i < 16
  · rw [if_pos h]
    have : i = 0 ∨ i = 1 ∨ i = 2 ∨ i = 3 ∨ i = 4 ∨ i = 5 ∨ i = 6 ∨ i = 7 ∨ i = 8 ∨ i = 9 ∨ i = 10 ∨ i = 11 ∨ i = 12 ∨ i = 13 ∨ i = 14 ∨ i = 15 := by omega
    rcases this with h | h | h | h | h | h | h | h | h | h | h | h | h | h | h | h <;> subst h <;> rfl
  · rw [if_neg h, Array.getElem?_eq_none (by simp [arr16]; omega)]
attribute [local go_sem] arr16_get
@[local go_sem] theorem arr16_set (f : Nat → Int) (i : Nat) (v : Int) : (arr16 f).setIfInBounds i (.int .u8 v) = arr16 (fun j => if j = i then v else f j) := by
  apply Array.ext_getElem?
  intro k
  rw [Array.getElem?_setIfInBounds, arr16_get, arr16_get]
  have hs : (arr16 f).size = 16 := rfl
  by_cases hk : i = k
  · subst hk
    simp [hs]
  · rw [if_neg hk]
    have : ¬ k = i := fun e => hk e.symm
    simp [this]
def lastG (ix : Nat → Nat) (n : Nat) (x : Nat → Int) : Nat → (Nat → Int)
  | 0 => x
  | m + 1 => fun j => if j = ix (n + m) then bits .or .u8 (lastG ix n x m (ix (n + m))) (2 ^ (7 - (n + m) % 8) % 256) else lastG ix n x m j
def b16 (hx lx : Int) (j : Nat) : Int := ([(hx / 72057594037927936 % 256), (hx / 281474976710656 % 256), (hx / 1099511627776 % 256), (hx / 4294967296 % 256), (hx / 16777216 % 256), (hx / 65536 % 256), (hx / 256 % 256), (hx % 256), (lx / 72057594037927936 % 256), (lx / 281474976710656 % 256), (lx / 1099511627776 % 256), (lx / 4294967296 % 256), (lx / 16777216 % 256), (lx / 65536 % 256), (lx / 256 % 256), (lx % 256)] : List Int).getD j 0
end Go.Proofs.YtmoabfpdlbngeaaGreatDoor
end
