/-
  Part of the proofs on the laws of pub-addresssets: joined texts (A3, Num, A4, A5).
-/
import Derived.Test.YtmoabfpdlbngeaaGreatDoorVBase
section
namespace Go.Proofs.YtmoabfpdlbngeaaGreatDoor
open Go.RowKit
set_option maxHeartbeats 400000
set_option linter.unusedVariables false
set_option linter.unusedSimpArgs false
def v4lo (b0 b1 b2 b3 : Int) : Int := bits .or .u64 (bits .or .u64 (bits .or .u64 (bits .or .u64 281470681743360 (IntKind.u64.wrap (IntKind.u64.wrap b0 * 16777216))) (IntKind.u64.wrap (IntKind.u64.wrap b1 * 65536))) (IntKind.u64.wrap (IntKind.u64.wrap b2 * 256))) (IntKind.u64.wrap b3)
theorem c93 (b0 b1 b2 b3 : Int) (w : World) : Calls Tryz.prog 93 #[.agg #[.int .u8 b0, .int .u8 b1, .int .u8 b2, .int .u8 b3]] w fun e w' => e = .returned (.agg #[.int .u64 0, .int .u64 (v4lo b0 b1 b2 b3), .bool true, .bool false, .string ⟨#[]⟩]) ∧ Plus w w' := by
  go_enter Tryz.func93, Tryz.ntmps93
  go_wp2_with fail
  refine wp_region_plus_tail 22 (by kernel_rfl) (by kernel_rfl) ?_
  simp only [List.take_succ_cons, List.take_zero, List.drop_succ_cons, List.drop_zero]
  repeat (go_big_quiet_step (first | (go_at_call 128; exact Calls.plus_of (c128 _))))
  refine wpQuiet_nil ?_
  intro _ hq
  obtain ⟨⟨dq, oq⟩, rfl⟩ := hq
  go_wp2_with fail
  exact bodyPost_ret (v := .agg #[.int .u64 0, .int .u64 (v4lo b0 b1 b2 b3), .bool true, .bool false, .string ⟨#[]⟩]) (by simp [results, Tryz.results93, go_sem, v4lo, IntWalk.iteOmega, ↓IntWalk.iteOmega]) rfl ⟨rfl, by repeat (first | exact Plus.refl _ | refine Plus.alloc ?_ _ | refine Plus.plus ?_ _ _ | refine Plus.drew ?_ | refine Plus.drewN ?_ _)⟩
theorem c94 (b0 b1 b2 b3 b4 b5 b6 b7 b8 b9 b10 b11 b12 b13 b14 b15 : Int) (w : World) : Calls Tryz.prog 94 #[.agg #[.int .u8 b0, .int .u8 b1, .int .u8 b2, .int .u8 b3, .int .u8 b4, .int .u8 b5, .int .u8 b6, .int .u8 b7, .int .u8 b8, .int .u8 b9, .int .u8 b10, .int .u8 b11, .int .u8 b12, .int .u8 b13, .int .u8 b14, .int .u8 b15]] w fun e w' => e = .returned (.agg #[.int .u64 (sh8 (sh8 (sh8 (sh8 (sh8 (sh8 (sh8 (sh8 0 b0) b1) b2) b3) b4) b5) b6) b7), .int .u64 (sh8 (sh8 (sh8 (sh8 (sh8 (sh8 (sh8 (sh8 0 b8) b9) b10) b11) b12) b13) b14) b15), .bool true, .bool true, .string ⟨#[]⟩]) ∧ Plus w w' := by
  go_enter Tryz.func94, Tryz.ntmps94
  go_wp2_with fail
  refine wp_region_plus_tail 7 (by kernel_rfl) (by kernel_rfl) ?_
  simp only [List.take_succ_cons, List.take_zero, List.drop_succ_cons, List.drop_zero]
  repeat (go_big_quiet_step (first | (go_at_call 131; refine Calls.plus_same (c131 _ _ _ b0 b1 b2 b3 b4 b5 b6 b7 _ ?_ ?_ ?_ ?_ ?_ ?_ ?_ ?_ ?_); all_goals (first | omega | (focus (simp [go_sem, IntWalk.iteOmega, ↓IntWalk.iteOmega]; done)))) | (go_at_call 131; refine Calls.plus_same (c131 _ _ _ b8 b9 b10 b11 b12 b13 b14 b15 _ ?_ ?_ ?_ ?_ ?_ ?_ ?_ ?_ ?_); all_goals (first | omega | (focus (simp [go_sem, IntWalk.iteOmega, ↓IntWalk.iteOmega]; done)))) | (go_at_call 132; exact Calls.plus_of (c132 _))))
  refine wpQuiet_nil ?_
  intro _ hq
  obtain ⟨⟨dq, oq⟩, rfl⟩ := hq
  go_wp2_with fail
  exact bodyPost_ret (v := .agg #[.int .u64 (sh8 (sh8 (sh8 (sh8 (sh8 (sh8 (sh8 (sh8 0 b0) b1) b2) b3) b4) b5) b6) b7), .int .u64 (sh8 (sh8 (sh8 (sh8 (sh8 (sh8 (sh8 (sh8 0 b8) b9) b10) b11) b12) b13) b14) b15), .bool true, .bool true, .string ⟨#[]⟩]) (by simp [results, Tryz.results94, go_sem, IntWalk.iteOmega, ↓IntWalk.iteOmega]) rfl ⟨rfl, by repeat (first | exact Plus.refl _ | refine Plus.alloc ?_ _ | refine Plus.plus ?_ _ _ | refine Plus.drew ?_ | refine Plus.drewN ?_ _)⟩
theorem c109 (h l : Int) (s : Bool) (w : World) : Calls Tryz.prog 109 #[.agg #[.int .u64 h, .int .u64 l, .bool true, .bool s, .string ⟨#[]⟩]] w fun e w' => e = .returned (.agg #[.int .u8 (h / 72057594037927936 % 256), .int .u8 (h / 281474976710656 % 256), .int .u8 (h / 1099511627776 % 256), .int .u8 (h / 4294967296 % 256), .int .u8 (h / 16777216 % 256), .int .u8 (h / 65536 % 256), .int .u8 (h / 256 % 256), .int .u8 (h % 256), .int .u8 (l / 72057594037927936 % 256), .int .u8 (l / 281474976710656 % 256), .int .u8 (l / 1099511627776 % 256), .int .u8 (l / 4294967296 % 256), .int .u8 (l / 16777216 % 256), .int .u8 (l / 65536 % 256), .int .u8 (l / 256 % 256), .int .u8 (l % 256)]) ∧ Plus w w' := by
  go_enter Tryz.func109, Tryz.ntmps109
  go_wp2_with fail
  refine wp_region_plus_tail 4 (by kernel_rfl) (by kernel_rfl) ?_
  simp only [List.take_succ_cons, List.take_zero, List.drop_succ_cons, List.drop_zero]
  repeat (go_big_quiet_step (fail))
  refine wpQuiet_nil ?_
  intro _ hq
  obtain ⟨⟨dq, oq⟩, rfl⟩ := hq
  go_wp2_with (go_at_call 130; (with_reducible refine (c130 _ _ _ _ 0 0 0 0 0 0 0 0 _ ?_ ?_ ?_ ?_ ?_ ?_ ?_ ?_ ?_ ?_ ?_ ?_ ?_ ?_ ?_ ?_).mono ?_); (iterate 16 (first | omega | (focus (simp [go_sem, IntWalk.iteOmega, ↓IntWalk.iteOmega]; done)))); rintro e w' ⟨rfl, rfl⟩)
  refine wp_region_plus_tail 4 (by kernel_rfl) (by kernel_rfl) ?_
  simp only [List.take_succ_cons, List.take_zero, List.drop_succ_cons, List.drop_zero]
  repeat (go_big_quiet_step (fail))
  refine wpQuiet_nil ?_
  intro _ hq
  obtain ⟨⟨dq, oq⟩, rfl⟩ := hq
  go_wp2_with (go_at_call 130; (with_reducible refine (c130 _ _ _ _ 0 0 0 0 0 0 0 0 _ ?_ ?_ ?_ ?_ ?_ ?_ ?_ ?_ ?_ ?_ ?_ ?_ ?_ ?_ ?_ ?_).mono ?_); (iterate 16 (first | omega | (focus (simp [go_sem, IntWalk.iteOmega, ↓IntWalk.iteOmega]; done)))); rintro e w' ⟨rfl, rfl⟩)
  exact bodyPost_ret (v := .agg #[.int .u8 (h / 72057594037927936 % 256), .int .u8 (h / 281474976710656 % 256), .int .u8 (h / 1099511627776 % 256), .int .u8 (h / 4294967296 % 256), .int .u8 (h / 16777216 % 256), .int .u8 (h / 65536 % 256), .int .u8 (h / 256 % 256), .int .u8 (h % 256), .int .u8 (l / 72057594037927936 % 256), .int .u8 (l / 281474976710656 % 256), .int .u8 (l / 1099511627776 % 256), .int .u8 (l / 4294967296 % 256), .int .u8 (l / 16777216 % 256), .int .u8 (l / 65536 % 256), .int .u8 (l / 256 % 256), .int .u8 (l % 256)]) (by simp [results, Tryz.results109, go_sem, IntWalk.iteOmega, ↓IntWalk.iteOmega]) rfl ⟨rfl, by repeat (first | exact Plus.refl _ | refine Plus.alloc ?_ _ | refine Plus.plus ?_ _ _ | refine Plus.drew ?_ | refine Plus.drewN ?_ _)⟩
def be64v (b0 b1 b2 b3 b4 b5 b6 b7 : Int) : Int := (bits .or .u64 (bits .or .u64 (bits .or .u64 (bits .or .u64 (bits .or .u64 (bits .or .u64 (bits .or .u64 (IntKind.u64.wrap b7) (IntKind.u64.wrap ((IntKind.u64.wrap b6) * 256))) (IntKind.u64.wrap ((IntKind.u64.wrap b5) * 65536))) (IntKind.u64.wrap ((IntKind.u64.wrap b4) * 16777216))) (IntKind.u64.wrap ((IntKind.u64.wrap b3) * 4294967296))) (IntKind.u64.wrap ((IntKind.u64.wrap b2) * 1099511627776))) (IntKind.u64.wrap ((IntKind.u64.wrap b1) * 281474976710656))) (IntKind.u64.wrap ((IntKind.u64.wrap b0) * 72057594037927936)))
theorem c137 (g o c : Nat) (b0 b1 b2 b3 b4 b5 b6 b7 : Int) (w : World) (c0 : w.cell? ⟨g, o, none⟩ = some (.int .u8 b0)) (c1 : w.cell? ⟨g, o + 1, none⟩ = some (.int .u8 b1)) (c2 : w.cell? ⟨g, o + 2, none⟩ = some (.int .u8 b2)) (c3 : w.cell? ⟨g, o + 3, none⟩ = some (.int .u8 b3)) (c4 : w.cell? ⟨g, o + 4, none⟩ = some (.int .u8 b4)) (c5 : w.cell? ⟨g, o + 5, none⟩ = some (.int .u8 b5)) (c6 : w.cell? ⟨g, o + 6, none⟩ = some (.int .u8 b6)) (c7 : w.cell? ⟨g, o + 7, none⟩ = some (.int .u8 b7)) : Calls Tryz.prog 137 #[.slice (some ⟨g, o, none⟩) 8 c] w fun e w' => e = .returned (.int .u64 (be64v b0 b1 b2 b3 b4 b5 b6 b7)) ∧ Plus w w' := by
  have hg : g < w.heap.size := World.block_lt_of_cell? w _ c0
  go_enter Tryz.func137, Tryz.ntmps137
  go_wp2_with fail
  refine wp_region_plus (by kernel_rfl) (by kernel_rfl) ?_
  repeat (go_big_quiet_step (fail))
  refine wpQuiet_nil ?_
  intro _ hq
  obtain ⟨⟨dq, oq⟩, rfl⟩ := hq
  go_wp2_with fail
  go_ret
  exact ⟨rfl, by repeat (first | exact Plus.refl _ | refine Plus.alloc ?_ _ | refine Plus.plus ?_ _ _ | refine Plus.drew ?_ | refine Plus.drewN ?_ _)⟩
theorem c108 (b0 b1 b2 b3 b4 b5 b6 b7 b8 b9 b10 b11 b12 b13 b14 b15 : Int) (w : World) : Calls Tryz.prog 108 #[.agg #[.int .u8 b0, .int .u8 b1, .int .u8 b2, .int .u8 b3, .int .u8 b4, .int .u8 b5, .int .u8 b6, .int .u8 b7, .int .u8 b8, .int .u8 b9, .int .u8 b10, .int .u8 b11, .int .u8 b12, .int .u8 b13, .int .u8 b14, .int .u8 b15]] w fun e w' => e = .returned (.agg #[.int .u64 (be64v b0 b1 b2 b3 b4 b5 b6 b7), .int .u64 (be64v b8 b9 b10 b11 b12 b13 b14 b15)]) ∧ Plus w w' := by
  go_enter Tryz.func108, Tryz.ntmps108
  go_wp2_with fail
  refine wp_region_plus_tail 5 (by kernel_rfl) (by kernel_rfl) ?_
  simp only [List.take_succ_cons, List.take_zero, List.drop_succ_cons, List.drop_zero]
  repeat (go_big_quiet_step (first | (go_at_call 137; refine Calls.plus_of (c137 _ _ _ b0 b1 b2 b3 b4 b5 b6 b7 _ ?_ ?_ ?_ ?_ ?_ ?_ ?_ ?_); all_goals (first | omega | (focus (simp [go_sem, IntWalk.iteOmega, ↓IntWalk.iteOmega]; done)))) | (go_at_call 137; refine Calls.plus_of (c137 _ _ _ b8 b9 b10 b11 b12 b13 b14 b15 _ ?_ ?_ ?_ ?_ ?_ ?_ ?_ ?_); all_goals (first | omega | (focus (simp [go_sem, IntWalk.iteOmega, ↓IntWalk.iteOmega]; done))))))
  refine wpQuiet_nil ?_
  intro _ hq
  obtain ⟨⟨dq, oq⟩, rfl⟩ := hq
  go_wp2_with fail
  exact bodyPost_ret (v := .agg #[.int .u64 (be64v b0 b1 b2 b3 b4 b5 b6 b7), .int .u64 (be64v b8 b9 b10 b11 b12 b13 b14 b15)]) (by simp [results, Tryz.results108, go_sem, IntWalk.iteOmega, ↓IntWalk.iteOmega]) rfl ⟨rfl, by repeat (first | exact Plus.refl _ | refine Plus.alloc ?_ _ | refine Plus.plus ?_ _ _ | refine Plus.drew ?_ | refine Plus.drewN ?_ _)⟩
theorem c144 (h l : Int) (w : World) : Calls Tryz.prog 144 #[.agg #[.int .u64 h, .int .u64 l]] w fun e w' => e = .returned (.agg #[.int .u64 0, .int .u64 (v4lo (l / 16777216 % 256) (l / 65536 % 256) (l / 256 % 256) (l % 256)), .bool true, .bool false, .string ⟨#[]⟩]) ∧ Plus w w' := by
  go_enter Tryz.func144, Tryz.ntmps144
  go_wp2_with fail
  refine wp_region_plus_tail 3 (by kernel_rfl) (by kernel_rfl) ?_
  simp only [List.take_succ_cons, List.take_zero, List.drop_succ_cons, List.drop_zero]
  repeat (go_big_quiet_step (fail))
  refine wpQuiet_nil ?_
  intro _ hq
  obtain ⟨⟨dq, oq⟩, rfl⟩ := hq
  go_wp2_with (first | (go_at_call 168; (with_reducible refine (c168 _ _ _ _ 0 0 0 0 0 0 0 0 (by omega) (by omega) _ ?_ ?_ ?_ ?_ ?_ ?_ ?_ ?_ ?_ ?_ ?_ ?_ ?_ ?_ ?_ ?_).mono ?_); (iterate 16 (first | omega | (focus (simp [go_sem, IntWalk.iteOmega, ↓IntWalk.iteOmega]; done)))); rintro e w' ⟨rfl, rfl⟩) | (go_at_call 93; (with_reducible refine (c93 _ _ _ _ _).mono ?_); rintro e w' ⟨rfl, dd, oo, rfl⟩))
  exact bodyPost_ret (v := .agg #[.int .u64 0, .int .u64 (v4lo (l / 16777216 % 256) (l / 65536 % 256) (l / 256 % 256) (l % 256)), .bool true, .bool false, .string ⟨#[]⟩]) (by simp [results, Tryz.results144, go_sem, IntWalk.iteOmega, ↓IntWalk.iteOmega]) rfl ⟨rfl, by repeat (first | exact Plus.refl _ | refine Plus.alloc ?_ _ | refine Plus.plus ?_ _ _ | refine Plus.drew ?_ | refine Plus.drewN ?_ _)⟩
theorem c145 (h l : Int) (w : World) : Calls Tryz.prog 145 #[.agg #[.int .u64 h, .int .u64 l]] w fun e w' => e = .returned (.agg #[.int .u64 (sh8 (sh8 (sh8 (sh8 (sh8 (sh8 (sh8 (sh8 0 (h / 72057594037927936 % 256)) (h / 281474976710656 % 256)) (h / 1099511627776 % 256)) (h / 4294967296 % 256)) (h / 16777216 % 256)) (h / 65536 % 256)) (h / 256 % 256)) (h % 256)), .int .u64 (sh8 (sh8 (sh8 (sh8 (sh8 (sh8 (sh8 (sh8 0 (l / 72057594037927936 % 256)) (l / 281474976710656 % 256)) (l / 1099511627776 % 256)) (l / 4294967296 % 256)) (l / 16777216 % 256)) (l / 65536 % 256)) (l / 256 % 256)) (l % 256)), .bool true, .bool true, .string ⟨#[]⟩]) ∧ Plus w w' := by
  go_enter Tryz.func145, Tryz.ntmps145
  go_wp2_with fail
  refine wp_region_plus_tail 3 (by kernel_rfl) (by kernel_rfl) ?_
  simp only [List.take_succ_cons, List.take_zero, List.drop_succ_cons, List.drop_zero]
  repeat (go_big_quiet_step (fail))
  refine wpQuiet_nil ?_
  intro _ hq
  obtain ⟨⟨dq, oq⟩, rfl⟩ := hq
  go_wp2_with (go_at_call 168; (with_reducible refine (c168 _ _ _ _ 0 0 0 0 0 0 0 0 (by omega) (by omega) _ ?_ ?_ ?_ ?_ ?_ ?_ ?_ ?_ ?_ ?_ ?_ ?_ ?_ ?_ ?_ ?_).mono ?_); (iterate 16 (first | omega | (focus (simp [go_sem, IntWalk.iteOmega, ↓IntWalk.iteOmega]; done)))); rintro e w' ⟨rfl, rfl⟩)
  refine wp_region_plus_tail 3 (by kernel_rfl) (by kernel_rfl) ?_
  simp only [List.take_succ_cons, List.take_zero, List.drop_succ_cons, List.drop_zero]
  repeat (go_big_quiet_step (fail))
  refine wpQuiet_nil ?_
  intro _ hq
  obtain ⟨⟨dq, oq⟩, rfl⟩ := hq
  go_wp2_with (first | (go_at_call 168; (with_reducible refine (c168 _ _ _ _ 0 0 0 0 0 0 0 0 (by omega) (by omega) _ ?_ ?_ ?_ ?_ ?_ ?_ ?_ ?_ ?_ ?_ ?_ ?_ ?_ ?_ ?_ ?_).mono ?_); (iterate 16 (first | omega | (focus (simp [go_sem, IntWalk.iteOmega, ↓IntWalk.iteOmega]; done)))); rintro e w' ⟨rfl, rfl⟩) | (go_at_call 94; (with_reducible refine (c94 _ _ _ _ _ _ _ _ _ _ _ _ _ _ _ _ _).mono ?_); rintro e w' ⟨rfl, dd, oo, rfl⟩))
  exact bodyPost_ret (v := .agg #[.int .u64 (sh8 (sh8 (sh8 (sh8 (sh8 (sh8 (sh8 (sh8 0 (h / 72057594037927936 % 256)) (h / 281474976710656 % 256)) (h / 1099511627776 % 256)) (h / 4294967296 % 256)) (h / 16777216 % 256)) (h / 65536 % 256)) (h / 256 % 256)) (h % 256)), .int .u64 (sh8 (sh8 (sh8 (sh8 (sh8 (sh8 (sh8 (sh8 0 (l / 72057594037927936 % 256)) (l / 281474976710656 % 256)) (l / 1099511627776 % 256)) (l / 4294967296 % 256)) (l / 16777216 % 256)) (l / 65536 % 256)) (l / 256 % 256)) (l % 256)), .bool true, .bool true, .string ⟨#[]⟩]) (by simp [results, Tryz.results145, go_sem, IntWalk.iteOmega, ↓IntWalk.iteOmega]) rfl ⟨rfl, by repeat (first | exact Plus.refl _ | refine Plus.alloc ?_ _ | refine Plus.plus ?_ _ _ | refine Plus.drew ?_ | refine Plus.drewN ?_ _)⟩
theorem c98 (h l : Int) (s : Bool) (w : World) : Calls Tryz.prog 98 #[.agg #[.int .u64 h, .int .u64 l, .bool true, .bool s, .string ⟨#[]⟩]] w fun e w' => e = .returned (.agg #[.int .u64 h, .int .u64 l, .bool true, .bool s, .string ⟨#[]⟩]) ∧ Plus w w' := by
  cases s
  all_goals
    go_enter Tryz.func98, Tryz.ntmps98
    go_wp2_with (first | (go_at_call 133; (with_reducible refine (c133 _ _ _ _).mono ?_); rintro e w' ⟨rfl, dd, oo, rfl⟩) | (go_at_call 132; (with_reducible refine (c132 _).mono ?_); rintro e w' ⟨rfl, dd, oo, rfl⟩))
    exact bodyPost_ret (v := (.agg #[.int .u64 h, .int .u64 l, .bool true, .bool _, .string ⟨#[]⟩])) (by simp [results, Tryz.results98, go_sem, IntWalk.iteOmega, ↓IntWalk.iteOmega]) rfl ⟨rfl, by repeat (first | exact Plus.refl _ | refine Plus.alloc ?_ _ | refine Plus.plus ?_ _ _ | refine Plus.drew ?_ | refine Plus.drewN ?_ _)⟩

end Go.Proofs.YtmoabfpdlbngeaaGreatDoor
end

section
/- Numbers out of bytes and back: what the walks leave, as sums. -/
namespace Go.Proofs.YtmoabfpdlbngeaaGreatDoor
open Go.RowKit
set_option linter.unusedVariables false
theorem wrap_in (n : Int) (h : 0 ≤ n) (h2 : n < 18446744073709551616) : IntKind.u64.wrap n = n := IntWalk.u64_in n ⟨h, by omega⟩
theorem wrap_u64 (n : Int) : IntKind.u64.wrap n = n % 18446744073709551616 := by
  simp [IntKind.wrap, IntKind.bits, IntKind.signed]
theorem or_add (i : Nat) (x y : Int) (hx0 : 0 ≤ x) (hx : x < 18446744073709551616) (hm : x % (2 ^ i : Nat) = 0) (hy0 : 0 ≤ y) (hy : y < (2 ^ i : Nat)) (hy2 : y < 18446744073709551616) : bits .or .u64 x y = x + y := by
  obtain ⟨X, rfl⟩ := Int.eq_ofNat_of_zero_le hx0
  obtain ⟨Y, rfl⟩ := Int.eq_ofNat_of_zero_le hy0
  rw [u64_or_nat X Y (by omega) (by omega), nat_join i X Y (by exact_mod_cast hm) (by exact_mod_cast hy)]
  simp
theorem or_comm64 (x y : Int) (hx0 : 0 ≤ x) (hx : x < 18446744073709551616) (hy0 : 0 ≤ y) (hy : y < 18446744073709551616) : bits .or .u64 x y = bits .or .u64 y x := by
  obtain ⟨X, rfl⟩ := Int.eq_ofNat_of_zero_le hx0
  obtain ⟨Y, rfl⟩ := Int.eq_ofNat_of_zero_le hy0
  rw [u64_or_nat X Y (by omega) (by omega), u64_or_nat Y X (by omega) (by omega), Nat.or_comm]
theorem or_add' (i : Nat) (x y : Int) (hx0 : 0 ≤ x) (hx : x < 18446744073709551616) (hm : x % (2 ^ i : Nat) = 0) (hy0 : 0 ≤ y) (hy : y < (2 ^ i : Nat)) (hy2 : y < 18446744073709551616) : bits .or .u64 y x = y + x := by
  rw [or_comm64 y x hy0 hy2 hx0 hx, or_add i x y hx0 hx hm hy0 hy hy2]; omega
theorem sh8_eq (v b : Int) (hv0 : 0 ≤ v) (hv : v < 72057594037927936) (hb0 : 0 ≤ b) (hb : b < 256) : sh8 v b = v * 256 + b := by
  unfold sh8
  rw [wrap_in (v * 256) (by omega) (by omega), wrap_in b hb0 (by omega)]
  exact or_add 8 _ _ (by omega) (by omega) (by simp) hb0 (by simpa using hb) (by omega)
theorem v4lo_eq (a b c d : Int) (a0 : 0 ≤ a) (a1 : a < 256) (b0 : 0 ≤ b) (b1 : b < 256) (c0 : 0 ≤ c) (c1 : c < 256) (d0 : 0 ≤ d) (d1 : d < 256) :
    v4lo a b c d = 281470681743360 + a * 16777216 + b * 65536 + c * 256 + d := by
  unfold v4lo
  rw [wrap_in a a0 (by omega), wrap_in b b0 (by omega), wrap_in c c0 (by omega), wrap_in d d0 (by omega), wrap_in (a * 16777216) (by omega) (by omega), wrap_in (b * 65536) (by omega) (by omega), wrap_in (c * 256) (by omega) (by omega)]
  rw [or_add 32 281470681743360 (a * 16777216) (by omega) (by omega) (by decide) (by omega) (by simp; omega) (by omega)]
  rw [or_add 24 _ (b * 65536) (by omega) (by omega) (by simp) (by omega) (by simp; omega) (by omega)]
  rw [or_add 16 _ (c * 256) (by omega) (by omega) (by simp; omega) (by omega) (by simp; omega) (by omega)]
  rw [or_add 8 _ d (by omega) (by omega) (by simp; omega) (by omega) (by simp; omega) (by omega)]
theorem be64v_eq (a b c d e f g h : Int) (a0 : 0 ≤ a) (a1 : a < 256) (b0 : 0 ≤ b) (b1 : b < 256) (c0 : 0 ≤ c) (c1 : c < 256) (d0 : 0 ≤ d) (d1 : d < 256)
    (e0 : 0 ≤ e) (e1 : e < 256) (f0 : 0 ≤ f) (f1 : f < 256) (g0 : 0 ≤ g) (g1 : g < 256) (h0 : 0 ≤ h) (h1 : h < 256) :
    be64v a b c d e f g h = a * 72057594037927936 + b * 281474976710656 + c * 1099511627776 + d * 4294967296 + e * 16777216 + f * 65536 + g * 256 + h := by
  unfold be64v
  rw [wrap_in a a0 (by omega), wrap_in b b0 (by omega), wrap_in c c0 (by omega), wrap_in d d0 (by omega), wrap_in e e0 (by omega), wrap_in f f0 (by omega), wrap_in g g0 (by omega), wrap_in h h0 (by omega)]
  rw [wrap_in (a * 72057594037927936) (by omega) (by omega), wrap_in (b * 281474976710656) (by omega) (by omega), wrap_in (c * 1099511627776) (by omega) (by omega), wrap_in (d * 4294967296) (by omega) (by omega), wrap_in (e * 16777216) (by omega) (by omega), wrap_in (f * 65536) (by omega) (by omega), wrap_in (g * 256) (by omega) (by omega)]
  rw [or_add' 8 (g * 256) h (by omega) (by omega) (by simp) (by omega) (by simp; omega) (by omega)]
  rw [or_add' 16 (f * 65536) _ (by omega) (by omega) (by simp) (by omega) (by simp; omega) (by omega)]
  rw [or_add' 24 (e * 16777216) _ (by omega) (by omega) (by simp) (by omega) (by simp; omega) (by omega)]
  rw [or_add' 32 (d * 4294967296) _ (by omega) (by omega) (by simp) (by omega) (by simp; omega) (by omega)]
  rw [or_add' 40 (c * 1099511627776) _ (by omega) (by omega) (by simp) (by omega) (by simp; omega) (by omega)]
  rw [or_add' 48 (b * 281474976710656) _ (by omega) (by omega) (by simp) (by omega) (by simp; omega) (by omega)]
  rw [or_add' 56 (a * 72057594037927936) _ (by omega) (by omega) (by simp) (by omega) (by simp; omega) (by omega)]
  omega
/-- A number is put together of its bytes. -/
theorem bytes_sum (n : Int) (h0 : 0 ≤ n) (h1 : n < 18446744073709551616) :
    n / 72057594037927936 % 256 * 72057594037927936 + n / 281474976710656 % 256 * 281474976710656 + n / 1099511627776 % 256 * 1099511627776 + n / 4294967296 % 256 * 4294967296 + n / 16777216 % 256 * 16777216 + n / 65536 % 256 * 65536 + n / 256 % 256 * 256 + n % 256 = n := by
  omega
theorem be64_bytes (n : Int) (h0 : 0 ≤ n) (h1 : n < 18446744073709551616) :
    be64v (n / 72057594037927936 % 256) (n / 281474976710656 % 256) (n / 1099511627776 % 256) (n / 4294967296 % 256) (n / 16777216 % 256) (n / 65536 % 256) (n / 256 % 256) (n % 256) = n := by
  rw [be64v_eq _ _ _ _ _ _ _ _ (by omega) (by omega) (by omega) (by omega) (by omega) (by omega) (by omega) (by omega) (by omega) (by omega) (by omega) (by omega) (by omega) (by omega) (by omega) (by omega)]
  exact bytes_sum n h0 h1
theorem sh8_bytes (n : Int) (h0 : 0 ≤ n) (h1 : n < 18446744073709551616) :
    sh8 (sh8 (sh8 (sh8 (sh8 (sh8 (sh8 (sh8 0 (n / 72057594037927936 % 256)) (n / 281474976710656 % 256)) (n / 1099511627776 % 256)) (n / 4294967296 % 256)) (n / 16777216 % 256)) (n / 65536 % 256)) (n / 256 % 256)) (n % 256) = n := by
  rw [sh8_eq 0 _ (by omega) (by omega) (by omega) (by omega), sh8_eq _ (n / 281474976710656 % 256) (by omega) (by omega) (by omega) (by omega), sh8_eq _ (n / 1099511627776 % 256) (by omega) (by omega) (by omega) (by omega), sh8_eq _ (n / 4294967296 % 256) (by omega) (by omega) (by omega) (by omega), sh8_eq _ (n / 16777216 % 256) (by omega) (by omega) (by omega) (by omega), sh8_eq _ (n / 65536 % 256) (by omega) (by omega) (by omega) (by omega), sh8_eq _ (n / 256 % 256) (by omega) (by omega) (by omega) (by omega), sh8_eq _ (n % 256) (by omega) (by omega) (by omega) (by omega)]
  have := bytes_sum n h0 h1
  omega
theorem sh8_bytes4 (n : Int) (h0 : 0 ≤ n) (h1 : n < 4294967296) :
    sh8 (sh8 (sh8 (sh8 0 (n / 16777216 % 256)) (n / 65536 % 256)) (n / 256 % 256)) (n % 256) = n := by
  rw [sh8_eq 0 _ (by omega) (by omega) (by omega) (by omega), sh8_eq _ (n / 65536 % 256) (by omega) (by omega) (by omega) (by omega), sh8_eq _ (n / 256 % 256) (by omega) (by omega) (by omega) (by omega), sh8_eq _ (n % 256) (by omega) (by omega) (by omega) (by omega)]
  omega
theorem v4lo_bytes (n : Int) : v4lo (n / 16777216 % 256) (n / 65536 % 256) (n / 256 % 256) (n % 256) = 281470681743360 + n % 4294967296 := by
  rw [v4lo_eq _ _ _ _ (by omega) (by omega) (by omega) (by omega) (by omega) (by omega) (by omega) (by omega)]
  omega
end Go.Proofs.YtmoabfpdlbngeaaGreatDoor
end

section
namespace Go.Proofs.YtmoabfpdlbngeaaGreatDoor
open Go.RowKit
set_option maxHeartbeats 400000
set_option linter.unusedVariables false
set_option linter.unusedSimpArgs false
theorem c85_4 (g o c : Nat) (x0 x1 x2 x3 : Int) (w : World) (c0 : w.cell? ⟨g, o, none⟩ = some (.int .u8 x0)) (c1 : w.cell? ⟨g, o + 1, none⟩ = some (.int .u8 x1)) (c2 : w.cell? ⟨g, o + 2, none⟩ = some (.int .u8 x2)) (c3 : w.cell? ⟨g, o + 3, none⟩ = some (.int .u8 x3)) : Calls Tryz.prog 85 #[.slice (some ⟨g, o, none⟩) 4 c] w fun e w' => e = .returned (.int .u64 (sh8 (sh8 (sh8 (sh8 0 x0) x1) x2) x3)) ∧ Plus w w' := by
  go_enter Tryz.func85, Tryz.ntmps85
  go_wp2_with fail
  go_loopw [3, 5, 8] (fun v u i wr => Eq3 i (.int .i64 0) v (.int .u64 0) wr w ∨ Eq3 i (.int .i64 1) v (.int .u64 (sh8 0 x0)) wr w ∨ Eq3 i (.int .i64 2) v (.int .u64 (sh8 (sh8 0 x0) x1)) wr w ∨ Eq3 i (.int .i64 3) v (.int .u64 (sh8 (sh8 (sh8 0 x0) x1) x2)) wr w ∨ Eq3 i (.int .i64 4) v (.int .u64 (sh8 (sh8 (sh8 (sh8 0 x0) x1) x2) x3)) wr w) (fun _ _ i _ => (4 - intOf i).toNat)
  case atStart => exact .inl ⟨rfl, rfl, rfl⟩
  case round =>
    rcases hrel with ⟨rfl, rfl, rfl⟩ | ⟨rfl, rfl, rfl⟩ | ⟨rfl, rfl, rfl⟩ | ⟨rfl, rfl, rfl⟩ | ⟨rfl, rfl, rfl⟩
    · go_wp2_with fail
      go_roundw
      case rel => exact .inr (.inl ⟨rfl, rfl, rfl⟩)
      case measure => simp [intOf]
    · go_wp2_with fail
      go_roundw
      case rel => exact .inr (.inr (.inl ⟨rfl, rfl, rfl⟩))
      case measure => simp [intOf]
    · go_wp2_with fail
      go_roundw
      case rel => exact .inr (.inr (.inr (.inl ⟨rfl, rfl, rfl⟩)))
      case measure => simp [intOf]
    · go_wp2_with fail
      go_roundw
      case rel => exact .inr (.inr (.inr (.inr (⟨rfl, rfl, rfl⟩))))
      case measure => simp [intOf]
    · go_wp2_with fail
      go_ret
      exact ⟨rfl, Plus.refl _⟩
theorem c85_8 (g o c : Nat) (x0 x1 x2 x3 x4 x5 x6 x7 : Int) (w : World) (c0 : w.cell? ⟨g, o, none⟩ = some (.int .u8 x0)) (c1 : w.cell? ⟨g, o + 1, none⟩ = some (.int .u8 x1)) (c2 : w.cell? ⟨g, o + 2, none⟩ = some (.int .u8 x2)) (c3 : w.cell? ⟨g, o + 3, none⟩ = some (.int .u8 x3)) (c4 : w.cell? ⟨g, o + 4, none⟩ = some (.int .u8 x4)) (c5 : w.cell? ⟨g, o + 5, none⟩ = some (.int .u8 x5)) (c6 : w.cell? ⟨g, o + 6, none⟩ = some (.int .u8 x6)) (c7 : w.cell? ⟨g, o + 7, none⟩ = some (.int .u8 x7)) : Calls Tryz.prog 85 #[.slice (some ⟨g, o, none⟩) 8 c] w fun e w' => e = .returned (.int .u64 (sh8 (sh8 (sh8 (sh8 (sh8 (sh8 (sh8 (sh8 0 x0) x1) x2) x3) x4) x5) x6) x7)) ∧ Plus w w' := by
  go_enter Tryz.func85, Tryz.ntmps85
  go_wp2_with fail
  go_loopw [3, 5, 8] (fun v u i wr => Eq3 i (.int .i64 0) v (.int .u64 0) wr w ∨ Eq3 i (.int .i64 1) v (.int .u64 (sh8 0 x0)) wr w ∨ Eq3 i (.int .i64 2) v (.int .u64 (sh8 (sh8 0 x0) x1)) wr w ∨ Eq3 i (.int .i64 3) v (.int .u64 (sh8 (sh8 (sh8 0 x0) x1) x2)) wr w ∨ Eq3 i (.int .i64 4) v (.int .u64 (sh8 (sh8 (sh8 (sh8 0 x0) x1) x2) x3)) wr w ∨ Eq3 i (.int .i64 5) v (.int .u64 (sh8 (sh8 (sh8 (sh8 (sh8 0 x0) x1) x2) x3) x4)) wr w ∨ Eq3 i (.int .i64 6) v (.int .u64 (sh8 (sh8 (sh8 (sh8 (sh8 (sh8 0 x0) x1) x2) x3) x4) x5)) wr w ∨ Eq3 i (.int .i64 7) v (.int .u64 (sh8 (sh8 (sh8 (sh8 (sh8 (sh8 (sh8 0 x0) x1) x2) x3) x4) x5) x6)) wr w ∨ Eq3 i (.int .i64 8) v (.int .u64 (sh8 (sh8 (sh8 (sh8 (sh8 (sh8 (sh8 (sh8 0 x0) x1) x2) x3) x4) x5) x6) x7)) wr w) (fun _ _ i _ => (8 - intOf i).toNat)
  case atStart => exact .inl ⟨rfl, rfl, rfl⟩
  case round =>
    rcases hrel with ⟨rfl, rfl, rfl⟩ | ⟨rfl, rfl, rfl⟩ | ⟨rfl, rfl, rfl⟩ | ⟨rfl, rfl, rfl⟩ | ⟨rfl, rfl, rfl⟩ | ⟨rfl, rfl, rfl⟩ | ⟨rfl, rfl, rfl⟩ | ⟨rfl, rfl, rfl⟩ | ⟨rfl, rfl, rfl⟩
    · go_wp2_with fail
      go_roundw
      case rel => exact .inr (.inl ⟨rfl, rfl, rfl⟩)
      case measure => simp [intOf]
    · go_wp2_with fail
      go_roundw
      case rel => exact .inr (.inr (.inl ⟨rfl, rfl, rfl⟩))
      case measure => simp [intOf]
    · go_wp2_with fail
      go_roundw
      case rel => exact .inr (.inr (.inr (.inl ⟨rfl, rfl, rfl⟩)))
      case measure => simp [intOf]
    · go_wp2_with fail
      go_roundw
      case rel => exact .inr (.inr (.inr (.inr (.inl ⟨rfl, rfl, rfl⟩))))
      case measure => simp [intOf]
    · go_wp2_with fail
      go_roundw
      case rel => exact .inr (.inr (.inr (.inr (.inr (.inl ⟨rfl, rfl, rfl⟩)))))
      case measure => simp [intOf]
    · go_wp2_with fail
      go_roundw
      case rel => exact .inr (.inr (.inr (.inr (.inr (.inr (.inl ⟨rfl, rfl, rfl⟩))))))
      case measure => simp [intOf]
    · go_wp2_with fail
      go_roundw
      case rel => exact .inr (.inr (.inr (.inr (.inr (.inr (.inr (.inl ⟨rfl, rfl, rfl⟩)))))))
      case measure => simp [intOf]
    · go_wp2_with fail
      go_roundw
      case rel => exact .inr (.inr (.inr (.inr (.inr (.inr (.inr (.inr (⟨rfl, rfl, rfl⟩))))))))
      case measure => simp [intOf]
    · go_wp2_with fail
      go_ret
      exact ⟨rfl, Plus.refl _⟩
def Holds4 (w : World) (g : Nat) (x0 x1 x2 x3 : Int) : Prop := w.cell? ⟨g, 0, none⟩ = some (.int .u8 x0) ∧ w.cell? ⟨g, 1, none⟩ = some (.int .u8 x1) ∧ w.cell? ⟨g, 2, none⟩ = some (.int .u8 x2) ∧ w.cell? ⟨g, 3, none⟩ = some (.int .u8 x3)
def Holds16 (w : World) (g : Nat) (x0 x1 x2 x3 x4 x5 x6 x7 x8 x9 x10 x11 x12 x13 x14 x15 : Int) : Prop := w.cell? ⟨g, 0, none⟩ = some (.int .u8 x0) ∧ w.cell? ⟨g, 1, none⟩ = some (.int .u8 x1) ∧ w.cell? ⟨g, 2, none⟩ = some (.int .u8 x2) ∧ w.cell? ⟨g, 3, none⟩ = some (.int .u8 x3) ∧ w.cell? ⟨g, 4, none⟩ = some (.int .u8 x4) ∧ w.cell? ⟨g, 5, none⟩ = some (.int .u8 x5) ∧ w.cell? ⟨g, 6, none⟩ = some (.int .u8 x6) ∧ w.cell? ⟨g, 7, none⟩ = some (.int .u8 x7) ∧ w.cell? ⟨g, 8, none⟩ = some (.int .u8 x8) ∧ w.cell? ⟨g, 9, none⟩ = some (.int .u8 x9) ∧ w.cell? ⟨g, 10, none⟩ = some (.int .u8 x10) ∧ w.cell? ⟨g, 11, none⟩ = some (.int .u8 x11) ∧ w.cell? ⟨g, 12, none⟩ = some (.int .u8 x12) ∧ w.cell? ⟨g, 13, none⟩ = some (.int .u8 x13) ∧ w.cell? ⟨g, 14, none⟩ = some (.int .u8 x14) ∧ w.cell? ⟨g, 15, none⟩ = some (.int .u8 x15)
def Res84 (n : Nat) (w : World) (H : World → Nat → Prop) (e : Ending) (w' : World) : Prop := ∃ g, e = .returned (.slice (some ⟨g, 0, none⟩) n n) ∧ Plus w w' ∧ w.heap.size ≤ g ∧ g < w'.heap.size ∧ H w' g
theorem c84_4 (h l : Int) (w : World) : Calls Tryz.prog 84 #[.agg #[.int .u64 h, .int .u64 l, .bool true, .bool false, .string ⟨#[]⟩]] w (Res84 4 w fun w' g => Holds4 w' g (l % 4294967296 / 16777216 % 256) (l % 4294967296 / 65536 % 256) (l % 4294967296 / 256 % 256) (l % 256)) := by
  go_enter Tryz.func84, Tryz.ntmps84
  go_wp2_with (first | (go_at_call 127; (with_reducible refine (c127 _).mono ?_); rintro e w' ⟨rfl, dd, oo, rfl⟩) | (go_at_call 128; (with_reducible refine (c128 _).mono ?_); rintro e w' ⟨rfl, dd, oo, rfl⟩))
  refine wp_region_plus_tail 5 (by kernel_rfl) (by kernel_rfl) ?_
  simp only [List.take_succ_cons, List.take_zero, List.drop_succ_cons, List.drop_zero]
  repeat (go_big_quiet_step (fail))
  refine wpQuiet_nil ?_
  intro _ hq
  obtain ⟨⟨dq, oq⟩, rfl⟩ := hq
  go_wp2_with (go_at_call 129; (with_reducible refine (c129 _ _ _ _ 0 0 0 0 _ ?_ ?_ ?_ ?_ ?_ ?_ ?_ ?_).mono ?_); (iterate 8 (first | omega | (focus (simp [go_sem, IntWalk.iteOmega, ↓IntWalk.iteOmega, *]; done)))); rintro e w' ⟨rfl, rfl⟩)
  go_ret
  exact ⟨_, rfl, by repeat (first | exact Plus.refl _ | refine Plus.alloc ?_ _ | refine Plus.plus ?_ _ _ | refine Plus.drew ?_ | refine Plus.drewN ?_ _), by ((try simp) <;> omega), by ((try simp) <;> omega), ⟨by simp [go_sem, IntWalk.iteOmega, ↓IntWalk.iteOmega], by simp [go_sem, IntWalk.iteOmega, ↓IntWalk.iteOmega], by simp [go_sem, IntWalk.iteOmega, ↓IntWalk.iteOmega], by simp [go_sem, IntWalk.iteOmega, ↓IntWalk.iteOmega]⟩⟩
theorem c84_6 (h l : Int) (w : World) : Calls Tryz.prog 84 #[.agg #[.int .u64 h, .int .u64 l, .bool true, .bool true, .string ⟨#[]⟩]] w (Res84 16 w fun w' g => Holds16 w' g (h / 72057594037927936 % 256) (h / 281474976710656 % 256) (h / 1099511627776 % 256) (h / 4294967296 % 256) (h / 16777216 % 256) (h / 65536 % 256) (h / 256 % 256) (h % 256) (l / 72057594037927936 % 256) (l / 281474976710656 % 256) (l / 1099511627776 % 256) (l / 4294967296 % 256) (l / 16777216 % 256) (l / 65536 % 256) (l / 256 % 256) (l % 256)) := by
  go_enter Tryz.func84, Tryz.ntmps84
  go_wp2_with (first | (go_at_call 127; (with_reducible refine (c127 _).mono ?_); rintro e w' ⟨rfl, dd, oo, rfl⟩) | (go_at_call 128; (with_reducible refine (c128 _).mono ?_); rintro e w' ⟨rfl, dd, oo, rfl⟩))
  refine wp_region_plus_tail 4 (by kernel_rfl) (by kernel_rfl) ?_
  simp only [List.take_succ_cons, List.take_zero, List.drop_succ_cons, List.drop_zero]
  repeat (go_big_quiet_step (fail))
  refine wpQuiet_nil ?_
  intro _ hq
  obtain ⟨⟨dq, oq⟩, rfl⟩ := hq
  go_wp2_with (go_at_call 130; (with_reducible refine (c130 _ _ _ _ 0 0 0 0 0 0 0 0 _ ?_ ?_ ?_ ?_ ?_ ?_ ?_ ?_ ?_ ?_ ?_ ?_ ?_ ?_ ?_ ?_).mono ?_); (iterate 16 (first | omega | (focus (simp [go_sem, IntWalk.iteOmega, ↓IntWalk.iteOmega, *]; done)))); rintro e w' ⟨rfl, rfl⟩)
  refine wp_region_plus_tail 4 (by kernel_rfl) (by kernel_rfl) ?_
  simp only [List.take_succ_cons, List.take_zero, List.drop_succ_cons, List.drop_zero]
  repeat (go_big_quiet_step (fail))
  refine wpQuiet_nil ?_
  intro _ hq
  obtain ⟨⟨dq, oq⟩, rfl⟩ := hq
  go_wp2_with (go_at_call 130; (with_reducible refine (c130 _ _ _ _ 0 0 0 0 0 0 0 0 _ ?_ ?_ ?_ ?_ ?_ ?_ ?_ ?_ ?_ ?_ ?_ ?_ ?_ ?_ ?_ ?_).mono ?_); (iterate 16 (first | omega | (focus (simp [go_sem, IntWalk.iteOmega, ↓IntWalk.iteOmega, *]; done)))); rintro e w' ⟨rfl, rfl⟩)
  go_ret
  exact ⟨_, rfl, by repeat (first | exact Plus.refl _ | refine Plus.alloc ?_ _ | refine Plus.plus ?_ _ _ | refine Plus.drew ?_ | refine Plus.drewN ?_ _), by ((try simp) <;> omega), by ((try simp) <;> omega), ⟨by simp [go_sem, IntWalk.iteOmega, ↓IntWalk.iteOmega], by simp [go_sem, IntWalk.iteOmega, ↓IntWalk.iteOmega], by simp [go_sem, IntWalk.iteOmega, ↓IntWalk.iteOmega], by simp [go_sem, IntWalk.iteOmega, ↓IntWalk.iteOmega], by simp [go_sem, IntWalk.iteOmega, ↓IntWalk.iteOmega], by simp [go_sem, IntWalk.iteOmega, ↓IntWalk.iteOmega], by simp [go_sem, IntWalk.iteOmega, ↓IntWalk.iteOmega], by simp [go_sem, IntWalk.iteOmega, ↓IntWalk.iteOmega], by simp [go_sem, IntWalk.iteOmega, ↓IntWalk.iteOmega], by simp [go_sem, IntWalk.iteOmega, ↓IntWalk.iteOmega], by simp [go_sem, IntWalk.iteOmega, ↓IntWalk.iteOmega], by simp [go_sem, IntWalk.iteOmega, ↓IntWalk.iteOmega], by simp [go_sem, IntWalk.iteOmega, ↓IntWalk.iteOmega], by simp [go_sem, IntWalk.iteOmega, ↓IntWalk.iteOmega], by simp [go_sem, IntWalk.iteOmega, ↓IntWalk.iteOmega], by simp [go_sem, IntWalk.iteOmega, ↓IntWalk.iteOmega]⟩⟩
theorem x31_4 (h l : Int) (w : World) : Calls Tryz.prog 31 #[.agg #[.int .u64 h, .int .u64 l, .bool true, .bool false, .string ⟨#[]⟩]] w fun e w' => e = .returned (.agg #[.bool false, .int .u64 0, .int .u64 (sh8 (sh8 (sh8 (sh8 0 (l % 4294967296 / 16777216 % 256)) (l % 4294967296 / 65536 % 256)) (l % 4294967296 / 256 % 256)) (l % 256))]) ∧ Plus w w' := by
  go_enter Tryz.func31, Tryz.ntmps31
  go_wp2_with (first | (go_at_call 84; (with_reducible refine (c84_4 _ _ _).mono ?_); rintro e w' ⟨gg, rfl, ⟨dd, oo, rfl⟩, hg1, hg2, c0, c1, c2, c3⟩) | (go_at_call 85; (with_reducible refine (c85_4 _ _ _ (l % 4294967296 / 16777216 % 256) (l % 4294967296 / 65536 % 256) (l % 4294967296 / 256 % 256) (l % 256) _ ?_ ?_ ?_ ?_).mono ?_); (iterate 4 (first | omega | (focus (simp [go_sem, IntWalk.iteOmega, ↓IntWalk.iteOmega, *]; done)))); rintro e w' ⟨rfl, dd, oo, rfl⟩))
  exact bodyPost_ret (v := .agg #[.bool false, .int .u64 0, .int .u64 (sh8 (sh8 (sh8 (sh8 0 (l % 4294967296 / 16777216 % 256)) (l % 4294967296 / 65536 % 256)) (l % 4294967296 / 256 % 256)) (l % 256))]) (by simp [results, Tryz.results31, go_sem, IntWalk.iteOmega, ↓IntWalk.iteOmega]) rfl ⟨rfl, by repeat (first | exact Plus.refl _ | refine Plus.alloc ?_ _ | refine Plus.plus ?_ _ _ | refine Plus.drew ?_ | refine Plus.drewN ?_ _)⟩
theorem x31_6 (h l : Int) (w : World) : Calls Tryz.prog 31 #[.agg #[.int .u64 h, .int .u64 l, .bool true, .bool true, .string ⟨#[]⟩]] w fun e w' => e = .returned (.agg #[.bool true, .int .u64 (sh8 (sh8 (sh8 (sh8 (sh8 (sh8 (sh8 (sh8 0 (h / 72057594037927936 % 256)) (h / 281474976710656 % 256)) (h / 1099511627776 % 256)) (h / 4294967296 % 256)) (h / 16777216 % 256)) (h / 65536 % 256)) (h / 256 % 256)) (h % 256)), .int .u64 (sh8 (sh8 (sh8 (sh8 (sh8 (sh8 (sh8 (sh8 0 (l / 72057594037927936 % 256)) (l / 281474976710656 % 256)) (l / 1099511627776 % 256)) (l / 4294967296 % 256)) (l / 16777216 % 256)) (l / 65536 % 256)) (l / 256 % 256)) (l % 256))]) ∧ Plus w w' := by
  go_enter Tryz.func31, Tryz.ntmps31
  go_wp2_with (first | (go_at_call 84; (with_reducible refine (c84_6 _ _ _).mono ?_); rintro e w' ⟨gg, rfl, ⟨dd, oo, rfl⟩, hg1, hg2, c0, c1, c2, c3, c4, c5, c6, c7, c8, c9, c10, c11, c12, c13, c14, c15⟩))
  refine wp_region_plus_tail 7 (by kernel_rfl) (by kernel_rfl) ?_
  simp only [List.take_succ_cons, List.take_zero, List.drop_succ_cons, List.drop_zero]
  repeat (go_big_quiet_step (first | (go_at_call 85; refine Calls.plus_of (c85_8 _ _ _ (h / 72057594037927936 % 256) (h / 281474976710656 % 256) (h / 1099511627776 % 256) (h / 4294967296 % 256) (h / 16777216 % 256) (h / 65536 % 256) (h / 256 % 256) (h % 256) _ ?_ ?_ ?_ ?_ ?_ ?_ ?_ ?_); all_goals (first | omega | (focus (simp [go_sem, IntWalk.iteOmega, ↓IntWalk.iteOmega, *]; done)))) | (go_at_call 85; refine Calls.plus_of (c85_8 _ _ _ (l / 72057594037927936 % 256) (l / 281474976710656 % 256) (l / 1099511627776 % 256) (l / 4294967296 % 256) (l / 16777216 % 256) (l / 65536 % 256) (l / 256 % 256) (l % 256) _ ?_ ?_ ?_ ?_ ?_ ?_ ?_ ?_); all_goals (first | omega | (focus (simp [go_sem, IntWalk.iteOmega, ↓IntWalk.iteOmega, *]; done))))))
  refine wpQuiet_nil ?_
  intro _ hq
  obtain ⟨⟨dq, oq⟩, rfl⟩ := hq
  go_wp2_with fail
  exact bodyPost_ret (v := .agg #[.bool true, .int .u64 (sh8 (sh8 (sh8 (sh8 (sh8 (sh8 (sh8 (sh8 0 (h / 72057594037927936 % 256)) (h / 281474976710656 % 256)) (h / 1099511627776 % 256)) (h / 4294967296 % 256)) (h / 16777216 % 256)) (h / 65536 % 256)) (h / 256 % 256)) (h % 256)), .int .u64 (sh8 (sh8 (sh8 (sh8 (sh8 (sh8 (sh8 (sh8 0 (l / 72057594037927936 % 256)) (l / 281474976710656 % 256)) (l / 1099511627776 % 256)) (l / 4294967296 % 256)) (l / 16777216 % 256)) (l / 65536 % 256)) (l / 256 % 256)) (l % 256))]) (by simp [results, Tryz.results31, go_sem, IntWalk.iteOmega, ↓IntWalk.iteOmega]) rfl ⟨rfl, by repeat (first | exact Plus.refl _ | refine Plus.alloc ?_ _ | refine Plus.plus ?_ _ _ | refine Plus.drew ?_ | refine Plus.drewN ?_ _)⟩
theorem sh8_bytes4' (l : Int) : (sh8 (sh8 (sh8 (sh8 0 (l % 4294967296 / 16777216 % 256)) (l % 4294967296 / 65536 % 256)) (l % 4294967296 / 256 % 256)) (l % 256)) = l % 4294967296 := by
  have h := sh8_bytes4 (l % 4294967296) (by omega) (by omega)
  rwa [show l % 4294967296 % 256 = l % 256 by omega] at h
theorem c31_4 (h l : Int) (w : World) : Calls Tryz.prog 31 #[.agg #[.int .u64 h, .int .u64 l, .bool true, .bool false, .string ⟨#[]⟩]] w fun e w' => e = .returned (.agg #[.bool false, .int .u64 0, .int .u64 (l % 4294967296)]) ∧ Plus w w' := by
  have h1 := x31_4 h l w
  rwa [sh8_bytes4'] at h1
theorem c31_6 (h l : Int) (w : World) (h0 : 0 ≤ h) (h1 : h < 18446744073709551616) (l0 : 0 ≤ l) (l1 : l < 18446744073709551616) : Calls Tryz.prog 31 #[.agg #[.int .u64 h, .int .u64 l, .bool true, .bool true, .string ⟨#[]⟩]] w fun e w' => e = .returned (.agg #[.bool true, .int .u64 h, .int .u64 l]) ∧ Plus w w' := by
  have hx := x31_6 h l w
  rwa [sh8_bytes h h0 h1, sh8_bytes l l0 l1] at hx
theorem x52_4 (h l : Int) (w : World) : Calls Tryz.prog 52 #[.agg #[.bool false, .int .u64 h, .int .u64 l]] w fun e w' => e = .returned (.agg #[.int .u64 0, .int .u64 (v4lo (l / 16777216 % 256) (l / 65536 % 256) (l / 256 % 256) (l % 256)), .bool true, .bool false, .string ⟨#[]⟩]) ∧ Plus w w' := by
  go_enter Tryz.func52, Tryz.ntmps52
  go_wp2_with fail
  refine wp_region_plus_tail 3 (by kernel_rfl) (by kernel_rfl) ?_
  simp only [List.take_succ_cons, List.take_zero, List.drop_succ_cons, List.drop_zero]
  repeat (go_big_quiet_step (fail))
  refine wpQuiet_nil ?_
  intro _ hq
  obtain ⟨⟨dq, oq⟩, rfl⟩ := hq
  go_wp2_with (first | (go_at_call 92; (with_reducible refine (c92_4 _ _ _ _ 0 0 0 0 _ ?_ ?_ ?_ ?_ ?_ ?_ ?_ ?_).mono ?_); (iterate 8 (first | omega | (focus (simp [go_sem, IntWalk.iteOmega, ↓IntWalk.iteOmega, *]; done)))); rintro e w' ⟨rfl, rfl⟩) | (go_at_call 93; (with_reducible refine (c93 _ _ _ _ _).mono ?_); rintro e w' ⟨rfl, dd, oo, rfl⟩))
  exact bodyPost_ret (v := .agg #[.int .u64 0, .int .u64 (v4lo (l / 16777216 % 256) (l / 65536 % 256) (l / 256 % 256) (l % 256)), .bool true, .bool false, .string ⟨#[]⟩]) (by simp [results, Tryz.results52, go_sem, IntWalk.iteOmega, ↓IntWalk.iteOmega]) rfl ⟨rfl, by repeat (first | exact Plus.refl _ | refine Plus.alloc ?_ _ | refine Plus.plus ?_ _ _ | refine Plus.drew ?_ | refine Plus.drewN ?_ _)⟩
theorem x52_6 (h l : Int) (w : World) : Calls Tryz.prog 52 #[.agg #[.bool true, .int .u64 h, .int .u64 l]] w fun e w' => e = .returned (.agg #[.int .u64 (sh8 (sh8 (sh8 (sh8 (sh8 (sh8 (sh8 (sh8 0 (h / 72057594037927936 % 256)) (h / 281474976710656 % 256)) (h / 1099511627776 % 256)) (h / 4294967296 % 256)) (h / 16777216 % 256)) (h / 65536 % 256)) (h / 256 % 256)) (h % 256)), .int .u64 (sh8 (sh8 (sh8 (sh8 (sh8 (sh8 (sh8 (sh8 0 (l / 72057594037927936 % 256)) (l / 281474976710656 % 256)) (l / 1099511627776 % 256)) (l / 4294967296 % 256)) (l / 16777216 % 256)) (l / 65536 % 256)) (l / 256 % 256)) (l % 256)), .bool true, .bool true, .string ⟨#[]⟩]) ∧ Plus w w' := by
  go_enter Tryz.func52, Tryz.ntmps52
  go_wp2_with fail
  refine wp_region_plus_tail 3 (by kernel_rfl) (by kernel_rfl) ?_
  simp only [List.take_succ_cons, List.take_zero, List.drop_succ_cons, List.drop_zero]
  repeat (go_big_quiet_step (fail))
  refine wpQuiet_nil ?_
  intro _ hq
  obtain ⟨⟨dq, oq⟩, rfl⟩ := hq
  go_wp2_with (go_at_call 92; (with_reducible refine (c92_8 _ _ _ _ 0 0 0 0 0 0 0 0 _ ?_ ?_ ?_ ?_ ?_ ?_ ?_ ?_ ?_ ?_ ?_ ?_ ?_ ?_ ?_ ?_).mono ?_); (iterate 16 (first | omega | (focus (simp [go_sem, IntWalk.iteOmega, ↓IntWalk.iteOmega, *]; done)))); rintro e w' ⟨rfl, rfl⟩)
  refine wp_region_plus_tail 3 (by kernel_rfl) (by kernel_rfl) ?_
  simp only [List.take_succ_cons, List.take_zero, List.drop_succ_cons, List.drop_zero]
  repeat (go_big_quiet_step (fail))
  refine wpQuiet_nil ?_
  intro _ hq
  obtain ⟨⟨dq, oq⟩, rfl⟩ := hq
  go_wp2_with (first | (go_at_call 92; (with_reducible refine (c92_8 _ _ _ _ 0 0 0 0 0 0 0 0 _ ?_ ?_ ?_ ?_ ?_ ?_ ?_ ?_ ?_ ?_ ?_ ?_ ?_ ?_ ?_ ?_).mono ?_); (iterate 16 (first | omega | (focus (simp [go_sem, IntWalk.iteOmega, ↓IntWalk.iteOmega, *]; done)))); rintro e w' ⟨rfl, rfl⟩) | (go_at_call 94; (with_reducible refine (c94 _ _ _ _ _ _ _ _ _ _ _ _ _ _ _ _ _).mono ?_); rintro e w' ⟨rfl, dd, oo, rfl⟩))
  exact bodyPost_ret (v := .agg #[.int .u64 (sh8 (sh8 (sh8 (sh8 (sh8 (sh8 (sh8 (sh8 0 (h / 72057594037927936 % 256)) (h / 281474976710656 % 256)) (h / 1099511627776 % 256)) (h / 4294967296 % 256)) (h / 16777216 % 256)) (h / 65536 % 256)) (h / 256 % 256)) (h % 256)), .int .u64 (sh8 (sh8 (sh8 (sh8 (sh8 (sh8 (sh8 (sh8 0 (l / 72057594037927936 % 256)) (l / 281474976710656 % 256)) (l / 1099511627776 % 256)) (l / 4294967296 % 256)) (l / 16777216 % 256)) (l / 65536 % 256)) (l / 256 % 256)) (l % 256)), .bool true, .bool true, .string ⟨#[]⟩]) (by simp [results, Tryz.results52, go_sem, IntWalk.iteOmega, ↓IntWalk.iteOmega]) rfl ⟨rfl, by repeat (first | exact Plus.refl _ | refine Plus.alloc ?_ _ | refine Plus.plus ?_ _ _ | refine Plus.drew ?_ | refine Plus.drewN ?_ _)⟩
theorem c52_4 (h l : Int) (w : World) : Calls Tryz.prog 52 #[.agg #[.bool false, .int .u64 h, .int .u64 l]] w fun e w' => e = .returned (.agg #[.int .u64 0, .int .u64 (281470681743360 + l % 4294967296), .bool true, .bool false, .string ⟨#[]⟩]) ∧ Plus w w' := by
  have h1 := x52_4 h l w
  rwa [v4lo_bytes] at h1
theorem c52_6 (h l : Int) (w : World) (h0 : 0 ≤ h) (h1 : h < 18446744073709551616) (l0 : 0 ≤ l) (l1 : l < 18446744073709551616) : Calls Tryz.prog 52 #[.agg #[.bool true, .int .u64 h, .int .u64 l]] w fun e w' => e = .returned (.agg #[.int .u64 h, .int .u64 l, .bool true, .bool true, .string ⟨#[]⟩]) ∧ Plus w w' := by
  have hx := x52_6 h l w
  rwa [sh8_bytes h h0 h1, sh8_bytes l l0 l1] at hx
end Go.Proofs.YtmoabfpdlbngeaaGreatDoor
end

section
namespace Go.Proofs.YtmoabfpdlbngeaaGreatDoor
open Go.RowKit
set_option maxHeartbeats 400000
set_option linter.unusedVariables false
set_option linter.unusedSimpArgs false
def cmpA (h1 l1 : Int) (s1 : Bool) (h2 l2 : Int) (s2 : Bool) : Int :=
  if s1 = s2 then (if h1 < h2 then -1 else if h2 < h1 then 1 else if l1 < l2 then -1 else if l2 < l1 then 1 else 0) else if s1 = true then 1 else -1
theorem ret_i64 {a b : Int} (h : a = b) : Ending.returned (.int .i64 a) = .returned (.int .i64 b) := by rw [h]
theorem ret_bool {a b : Bool} (h : a = b) : Ending.returned (.bool a) = .returned (.bool b) := by rw [h]
theorem cmpA_lt (h1 l1 h2 l2 : Int) (s : Bool) (h : h1 < h2) : (-1 : Int) = cmpA h1 l1 s h2 l2 s := by simp [cmpA, h]
theorem cmpA_gt (h1 l1 h2 l2 : Int) (s : Bool) (h : h2 < h1) : (1 : Int) = cmpA h1 l1 s h2 l2 s := by simp [cmpA, h]; omega
theorem cmpA_llt (h1 l1 h2 l2 : Int) (s : Bool) (a : h1 ≤ h2) (b : h2 ≤ h1) (h : l1 < l2) : (-1 : Int) = cmpA h1 l1 s h2 l2 s := by
  obtain rfl : h1 = h2 := by omega
  simp [cmpA, h]
theorem cmpA_lgt (h1 l1 h2 l2 : Int) (s : Bool) (a : h1 ≤ h2) (b : h2 ≤ h1) (h : l2 < l1) : (1 : Int) = cmpA h1 l1 s h2 l2 s := by
  obtain rfl : h1 = h2 := by omega
  simp [cmpA, h]; omega
theorem cmpA_eq0 (h1 l1 h2 l2 : Int) (s : Bool) (a : h1 ≤ h2) (b : h2 ≤ h1) (c : l1 ≤ l2) (d : l2 ≤ l1) : (0 : Int) = cmpA h1 l1 s h2 l2 s := by
  obtain rfl : h1 = h2 := by omega
  obtain rfl : l1 = l2 := by omega
  simp [cmpA]
theorem c134_false (h1 l1 h2 l2 : Int) (w : World) : Calls Tryz.prog 134 #[.agg #[.int .u64 h1, .int .u64 l1, .bool true, .bool false, .string ⟨#[]⟩], .agg #[.int .u64 h2, .int .u64 l2, .bool true, .bool false, .string ⟨#[]⟩]] w fun e w' => e = .returned (.int .i64 (cmpA h1 l1 false h2 l2 false)) ∧ Plus w w' := by
  go_enter Tryz.func134, Tryz.ntmps134
  go_wp2_with fail
  refine wp_region_plus (by kernel_rfl) (by kernel_rfl) ?_
  repeat (go_big_quiet_step (first | (go_at_call 97; exact Calls.plus_of (c97 _ _ _ _))))
  refine wpQuiet_nil ?_
  intro _ hq
  obtain ⟨⟨dq, oq⟩, rfl⟩ := hq
  go_wp2_with fail
  refine wp_region_plus (by kernel_rfl) (by kernel_rfl) ?_
  repeat (go_big_quiet_step (fail))
  refine wpQuiet_nil ?_
  intro _ hq
  obtain ⟨⟨dq, oq⟩, rfl⟩ := hq
  by_cases q1 : h1 < h2
  · go_wp2_with fail
    go_ret
    exact ⟨ret_i64 (cmpA_lt _ _ _ _ _ q1), by repeat (first | exact Plus.refl _ | refine Plus.alloc ?_ _ | refine Plus.plus ?_ _ _ | refine Plus.drew ?_ | refine Plus.drewN ?_ _)⟩
  by_cases q2 : h2 < h1
  · go_wp2_with fail
    go_ret
    exact ⟨ret_i64 (cmpA_gt _ _ _ _ _ q2), by repeat (first | exact Plus.refl _ | refine Plus.alloc ?_ _ | refine Plus.plus ?_ _ _ | refine Plus.drew ?_ | refine Plus.drewN ?_ _)⟩
  have q3 : h1 ≤ h2 := by omega
  have q4 : h2 ≤ h1 := by omega
  clear q1 q2
  go_wp2_with fail
  refine wp_region_plus (by kernel_rfl) (by kernel_rfl) ?_
  repeat (go_big_quiet_step (fail))
  refine wpQuiet_nil ?_
  intro _ hq
  obtain ⟨⟨dq, oq⟩, rfl⟩ := hq
  by_cases q1 : l1 < l2
  · go_wp2_with fail
    go_ret
    exact ⟨ret_i64 (cmpA_llt _ _ _ _ _ q3 q4 q1), by repeat (first | exact Plus.refl _ | refine Plus.alloc ?_ _ | refine Plus.plus ?_ _ _ | refine Plus.drew ?_ | refine Plus.drewN ?_ _)⟩
  by_cases q2 : l2 < l1
  · go_wp2_with fail
    go_ret
    exact ⟨ret_i64 (cmpA_lgt _ _ _ _ _ q3 q4 q2), by repeat (first | exact Plus.refl _ | refine Plus.alloc ?_ _ | refine Plus.plus ?_ _ _ | refine Plus.drew ?_ | refine Plus.drewN ?_ _)⟩
  have q5 : l1 ≤ l2 := by omega
  have q6 : l2 ≤ l1 := by omega
  clear q1 q2
  go_wp2_with (first | (go_at_call 133; (with_reducible refine (c133 _ _ _ _).mono ?_); rintro e w' ⟨rfl, dd, oo, rfl⟩))
  go_ret
  exact ⟨ret_i64 (cmpA_eq0 _ _ _ _ _ q3 q4 q5 q6), by repeat (first | exact Plus.refl _ | refine Plus.alloc ?_ _ | refine Plus.plus ?_ _ _ | refine Plus.drew ?_ | refine Plus.drewN ?_ _)⟩
theorem c134_true (h1 l1 h2 l2 : Int) (w : World) : Calls Tryz.prog 134 #[.agg #[.int .u64 h1, .int .u64 l1, .bool true, .bool true, .string ⟨#[]⟩], .agg #[.int .u64 h2, .int .u64 l2, .bool true, .bool true, .string ⟨#[]⟩]] w fun e w' => e = .returned (.int .i64 (cmpA h1 l1 true h2 l2 true)) ∧ Plus w w' := by
  go_enter Tryz.func134, Tryz.ntmps134
  go_wp2_with fail
  refine wp_region_plus (by kernel_rfl) (by kernel_rfl) ?_
  repeat (go_big_quiet_step (first | (go_at_call 97; exact Calls.plus_of (c97 _ _ _ _))))
  refine wpQuiet_nil ?_
  intro _ hq
  obtain ⟨⟨dq, oq⟩, rfl⟩ := hq
  go_wp2_with fail
  refine wp_region_plus (by kernel_rfl) (by kernel_rfl) ?_
  repeat (go_big_quiet_step (fail))
  refine wpQuiet_nil ?_
  intro _ hq
  obtain ⟨⟨dq, oq⟩, rfl⟩ := hq
  by_cases q1 : h1 < h2
  · go_wp2_with fail
    go_ret
    exact ⟨ret_i64 (cmpA_lt _ _ _ _ _ q1), by repeat (first | exact Plus.refl _ | refine Plus.alloc ?_ _ | refine Plus.plus ?_ _ _ | refine Plus.drew ?_ | refine Plus.drewN ?_ _)⟩
  by_cases q2 : h2 < h1
  · go_wp2_with fail
    go_ret
    exact ⟨ret_i64 (cmpA_gt _ _ _ _ _ q2), by repeat (first | exact Plus.refl _ | refine Plus.alloc ?_ _ | refine Plus.plus ?_ _ _ | refine Plus.drew ?_ | refine Plus.drewN ?_ _)⟩
  have q3 : h1 ≤ h2 := by omega
  have q4 : h2 ≤ h1 := by omega
  clear q1 q2
  go_wp2_with fail
  refine wp_region_plus (by kernel_rfl) (by kernel_rfl) ?_
  repeat (go_big_quiet_step (fail))
  refine wpQuiet_nil ?_
  intro _ hq
  obtain ⟨⟨dq, oq⟩, rfl⟩ := hq
  by_cases q1 : l1 < l2
  · go_wp2_with fail
    go_ret
    exact ⟨ret_i64 (cmpA_llt _ _ _ _ _ q3 q4 q1), by repeat (first | exact Plus.refl _ | refine Plus.alloc ?_ _ | refine Plus.plus ?_ _ _ | refine Plus.drew ?_ | refine Plus.drewN ?_ _)⟩
  by_cases q2 : l2 < l1
  · go_wp2_with fail
    go_ret
    exact ⟨ret_i64 (cmpA_lgt _ _ _ _ _ q3 q4 q2), by repeat (first | exact Plus.refl _ | refine Plus.alloc ?_ _ | refine Plus.plus ?_ _ _ | refine Plus.drew ?_ | refine Plus.drewN ?_ _)⟩
  have q5 : l1 ≤ l2 := by omega
  have q6 : l2 ≤ l1 := by omega
  clear q1 q2
  go_wp2_with (first | (go_at_call 133; (with_reducible refine (c133 _ _ _ _).mono ?_); rintro e w' ⟨rfl, dd, oo, rfl⟩))
  refine wp_region_plus (by kernel_rfl) (by kernel_rfl) ?_
  repeat (go_big_quiet_step (first | (go_at_call 99; exact Calls.plus_of (c99 _ _ _ _))))
  refine wpQuiet_nil ?_
  intro _ hq
  obtain ⟨⟨dq, oq⟩, rfl⟩ := hq
  go_wp2_with fail
  go_ret
  exact ⟨ret_i64 (cmpA_eq0 _ _ _ _ _ q3 q4 q5 q6), by repeat (first | exact Plus.refl _ | refine Plus.alloc ?_ _ | refine Plus.plus ?_ _ _ | refine Plus.drew ?_ | refine Plus.drewN ?_ _)⟩
theorem c134_falsetrue (h1 l1 h2 l2 : Int) (w : World) : Calls Tryz.prog 134 #[.agg #[.int .u64 h1, .int .u64 l1, .bool true, .bool false, .string ⟨#[]⟩], .agg #[.int .u64 h2, .int .u64 l2, .bool true, .bool true, .string ⟨#[]⟩]] w fun e w' => e = .returned (.int .i64 (cmpA h1 l1 false h2 l2 true)) ∧ Plus w w' := by
  go_enter Tryz.func134, Tryz.ntmps134
  go_wp2_with fail
  refine wp_region_plus (by kernel_rfl) (by kernel_rfl) ?_
  repeat (go_big_quiet_step (first | (go_at_call 97; exact Calls.plus_of (c97 _ _ _ _))))
  refine wpQuiet_nil ?_
  intro _ hq
  obtain ⟨⟨dq, oq⟩, rfl⟩ := hq
  go_wp2_with fail
  go_ret
  exact ⟨ret_i64 (by simp [cmpA]), by repeat (first | exact Plus.refl _ | refine Plus.alloc ?_ _ | refine Plus.plus ?_ _ _ | refine Plus.drew ?_ | refine Plus.drewN ?_ _)⟩
theorem c134_truefalse (h1 l1 h2 l2 : Int) (w : World) : Calls Tryz.prog 134 #[.agg #[.int .u64 h1, .int .u64 l1, .bool true, .bool true, .string ⟨#[]⟩], .agg #[.int .u64 h2, .int .u64 l2, .bool true, .bool false, .string ⟨#[]⟩]] w fun e w' => e = .returned (.int .i64 (cmpA h1 l1 true h2 l2 false)) ∧ Plus w w' := by
  go_enter Tryz.func134, Tryz.ntmps134
  go_wp2_with fail
  refine wp_region_plus (by kernel_rfl) (by kernel_rfl) ?_
  repeat (go_big_quiet_step (first | (go_at_call 97; exact Calls.plus_of (c97 _ _ _ _))))
  refine wpQuiet_nil ?_
  intro _ hq
  obtain ⟨⟨dq, oq⟩, rfl⟩ := hq
  go_wp2_with fail
  go_ret
  exact ⟨ret_i64 (by simp [cmpA]), by repeat (first | exact Plus.refl _ | refine Plus.alloc ?_ _ | refine Plus.plus ?_ _ _ | refine Plus.drew ?_ | refine Plus.drewN ?_ _)⟩
theorem c134 (h1 l1 : Int) (s1 : Bool) (h2 l2 : Int) (s2 : Bool) (w : World) : Calls Tryz.prog 134 #[.agg #[.int .u64 h1, .int .u64 l1, .bool true, .bool s1, .string ⟨#[]⟩], .agg #[.int .u64 h2, .int .u64 l2, .bool true, .bool s2, .string ⟨#[]⟩]] w fun e w' => e = .returned (.int .i64 (cmpA h1 l1 s1 h2 l2 s2)) ∧ Plus w w' := by
  cases s1 <;> cases s2
  · exact c134_false _ _ _ _ _
  · exact c134_falsetrue _ _ _ _ _
  · exact c134_truefalse _ _ _ _ _
  · exact c134_true _ _ _ _ _
end Go.Proofs.YtmoabfpdlbngeaaGreatDoor
end
