/-
  Part of the proofs on the laws of pub-addresssets: joined texts (A6, Lz, A7).
-/
import Derived.Test.YtmoabfpdlbngeaaGreatDoorVA3
import Derived.Shelf.Small.Bits
import Derived.Test.YtmoabfpdlbngeaaGreatDoorProg
section
namespace Go.Proofs.YtmoabfpdlbngeaaGreatDoor
open Go.RowKit
set_option maxHeartbeats 400000
set_option linter.unusedVariables false
set_option linter.unusedSimpArgs false
def ltA (h1 l1 : Int) (s1 : Bool) (h2 l2 : Int) (s2 : Bool) : Bool := cmpA h1 l1 s1 h2 l2 s2 == -1
def leA (h1 l1 : Int) (s1 : Bool) (h2 l2 : Int) (s2 : Bool) : Bool := decide (cmpA h1 l1 s1 h2 l2 s2 ≤ 0)
theorem c102 (h1 l1 : Int) (s1 : Bool) (h2 l2 : Int) (s2 : Bool) (w : World) : Calls Tryz.prog 102 #[.agg #[.int .u64 h1, .int .u64 l1, .bool true, .bool s1, .string ⟨#[]⟩], .agg #[.int .u64 h2, .int .u64 l2, .bool true, .bool s2, .string ⟨#[]⟩]] w fun e w' => e = .returned (.bool (ltA h1 l1 s1 h2 l2 s2)) ∧ Plus w w' := by
  go_enter Tryz.func102, Tryz.ntmps102
  go_wp2_with (first | (go_at_call 134; (with_reducible refine (c134 _ _ _ _ _ _ _).mono ?_); rintro e w' ⟨rfl, dd, oo, rfl⟩))
  go_ret
  exact ⟨rfl, by repeat (first | exact Plus.refl _ | refine Plus.alloc ?_ _ | refine Plus.plus ?_ _ _ | refine Plus.drew ?_ | refine Plus.drewN ?_ _)⟩

theorem c135 (h1 l1 : Int) (s1 : Bool) (h2 l2 : Int) (s2 : Bool) (w : World) : Calls Tryz.prog 135 #[.agg #[.int .u64 h1, .int .u64 l1, .bool true, .bool s1, .string ⟨#[]⟩], .agg #[.int .u64 h2, .int .u64 l2, .bool true, .bool s2, .string ⟨#[]⟩]] w fun e w' => e = .returned (.bool (leA h1 l1 s1 h2 l2 s2)) ∧ Plus w w' := by
  go_enter Tryz.func135, Tryz.ntmps135
  go_wp2_with (first | (go_at_call 134; (with_reducible refine (c134 _ _ _ _ _ _ _).mono ?_); rintro e w' ⟨rfl, dd, oo, rfl⟩))
  go_ret
  exact ⟨rfl, by repeat (first | exact Plus.refl _ | refine Plus.alloc ?_ _ | refine Plus.plus ?_ _ _ | refine Plus.drew ?_ | refine Plus.drewN ?_ _)⟩

theorem c160 (h1 l1 : Int) (s1 : Bool) (h2 l2 : Int) (s2 : Bool) (h3 l3 : Int) (s3 : Bool) (h4 l4 : Int) (s4 : Bool) (w : World) : Calls Tryz.prog 160 #[.agg #[.int .u64 h1, .int .u64 l1, .bool true, .bool s1, .string ⟨#[]⟩, .int .u64 h2, .int .u64 l2, .bool true, .bool s2, .string ⟨#[]⟩], .agg #[.int .u64 h3, .int .u64 l3, .bool true, .bool s3, .string ⟨#[]⟩, .int .u64 h4, .int .u64 l4, .bool true, .bool s4, .string ⟨#[]⟩]] w fun e w' => e = .returned (.bool (ltA h2 l2 s2 h3 l3 s3)) ∧ Plus w w' := by
  go_enter Tryz.func160, Tryz.ntmps160
  go_wp2_with (first | (go_at_call 102; (with_reducible refine (c102 _ _ _ _ _ _ _).mono ?_); rintro e w' ⟨rfl, dd, oo, rfl⟩))
  go_ret
  exact ⟨rfl, by repeat (first | exact Plus.refl _ | refine Plus.alloc ?_ _ | refine Plus.plus ?_ _ _ | refine Plus.drew ?_ | refine Plus.drewN ?_ _)⟩

theorem c161 (h1 l1 : Int) (s1 : Bool) (h2 l2 : Int) (s2 : Bool) (h3 l3 : Int) (s3 : Bool) (h4 l4 : Int) (s4 : Bool) (w : World) : Calls Tryz.prog 161 #[.agg #[.int .u64 h1, .int .u64 l1, .bool true, .bool s1, .string ⟨#[]⟩, .int .u64 h2, .int .u64 l2, .bool true, .bool s2, .string ⟨#[]⟩], .agg #[.int .u64 h3, .int .u64 l3, .bool true, .bool s3, .string ⟨#[]⟩, .int .u64 h4, .int .u64 l4, .bool true, .bool s4, .string ⟨#[]⟩]] w fun e w' => e = .returned (.bool (ltA h3 l3 s3 h1 l1 s1 && ltA h2 l2 s2 h4 l4 s4)) ∧ Plus w w' := by
  cases hq : ltA h3 l3 s3 h1 l1 s1
  · go_enter Tryz.func161, Tryz.ntmps161
    go_wp2_with (first | (go_at_call 102; (with_reducible refine (c102 _ _ _ _ _ _ _).mono ?_); rintro e w' ⟨rfl, dd, oo, rfl⟩))
    go_ret
    exact ⟨rfl, by repeat (first | exact Plus.refl _ | refine Plus.alloc ?_ _ | refine Plus.plus ?_ _ _ | refine Plus.drew ?_ | refine Plus.drewN ?_ _)⟩
  · cases hp : ltA h2 l2 s2 h4 l4 s4
    · go_enter Tryz.func161, Tryz.ntmps161
      go_wp2_with (first | (go_at_call 102; (with_reducible refine (c102 _ _ _ _ _ _ _).mono ?_); rintro e w' ⟨rfl, dd, oo, rfl⟩))
      go_ret
      exact ⟨rfl, by repeat (first | exact Plus.refl _ | refine Plus.alloc ?_ _ | refine Plus.plus ?_ _ _ | refine Plus.drew ?_ | refine Plus.drewN ?_ _)⟩
    · go_enter Tryz.func161, Tryz.ntmps161
      go_wp2_with (first | (go_at_call 102; (with_reducible refine (c102 _ _ _ _ _ _ _).mono ?_); rintro e w' ⟨rfl, dd, oo, rfl⟩))
      go_ret
      exact ⟨rfl, by repeat (first | exact Plus.refl _ | refine Plus.alloc ?_ _ | refine Plus.plus ?_ _ _ | refine Plus.drew ?_ | refine Plus.drewN ?_ _)⟩
theorem c164 (h1 l1 : Int) (s1 : Bool) (h2 l2 : Int) (s2 : Bool) (h3 l3 : Int) (s3 : Bool) (h4 l4 : Int) (s4 : Bool) (w : World) : Calls Tryz.prog 164 #[.agg #[.int .u64 h1, .int .u64 l1, .bool true, .bool s1, .string ⟨#[]⟩, .int .u64 h2, .int .u64 l2, .bool true, .bool s2, .string ⟨#[]⟩], .agg #[.int .u64 h3, .int .u64 l3, .bool true, .bool s3, .string ⟨#[]⟩, .int .u64 h4, .int .u64 l4, .bool true, .bool s4, .string ⟨#[]⟩]] w fun e w' => e = .returned (.bool (leA h1 l1 s1 h3 l3 s3 && ltA h2 l2 s2 h4 l4 s4)) ∧ Plus w w' := by
  cases hq : leA h1 l1 s1 h3 l3 s3
  · go_enter Tryz.func164, Tryz.ntmps164
    go_wp2_with (first | (go_at_call 102; (with_reducible refine (c102 _ _ _ _ _ _ _).mono ?_); rintro e w' ⟨rfl, dd, oo, rfl⟩) | (go_at_call 135; (with_reducible refine (c135 _ _ _ _ _ _ _).mono ?_); rintro e w' ⟨rfl, dd, oo, rfl⟩))
    go_ret
    exact ⟨rfl, by repeat (first | exact Plus.refl _ | refine Plus.alloc ?_ _ | refine Plus.plus ?_ _ _ | refine Plus.drew ?_ | refine Plus.drewN ?_ _)⟩
  · cases hp : ltA h2 l2 s2 h4 l4 s4
    · go_enter Tryz.func164, Tryz.ntmps164
      go_wp2_with (first | (go_at_call 102; (with_reducible refine (c102 _ _ _ _ _ _ _).mono ?_); rintro e w' ⟨rfl, dd, oo, rfl⟩) | (go_at_call 135; (with_reducible refine (c135 _ _ _ _ _ _ _).mono ?_); rintro e w' ⟨rfl, dd, oo, rfl⟩))
      go_ret
      exact ⟨rfl, by repeat (first | exact Plus.refl _ | refine Plus.alloc ?_ _ | refine Plus.plus ?_ _ _ | refine Plus.drew ?_ | refine Plus.drewN ?_ _)⟩
    · go_enter Tryz.func164, Tryz.ntmps164
      go_wp2_with (first | (go_at_call 102; (with_reducible refine (c102 _ _ _ _ _ _ _).mono ?_); rintro e w' ⟨rfl, dd, oo, rfl⟩) | (go_at_call 135; (with_reducible refine (c135 _ _ _ _ _ _ _).mono ?_); rintro e w' ⟨rfl, dd, oo, rfl⟩))
      go_ret
      exact ⟨rfl, by repeat (first | exact Plus.refl _ | refine Plus.alloc ?_ _ | refine Plus.plus ?_ _ _ | refine Plus.drew ?_ | refine Plus.drewN ?_ _)⟩
theorem c165 (h1 l1 : Int) (s1 : Bool) (h2 l2 : Int) (s2 : Bool) (h3 l3 : Int) (s3 : Bool) (h4 l4 : Int) (s4 : Bool) (w : World) : Calls Tryz.prog 165 #[.agg #[.int .u64 h1, .int .u64 l1, .bool true, .bool s1, .string ⟨#[]⟩, .int .u64 h2, .int .u64 l2, .bool true, .bool s2, .string ⟨#[]⟩], .agg #[.int .u64 h3, .int .u64 l3, .bool true, .bool s3, .string ⟨#[]⟩, .int .u64 h4, .int .u64 l4, .bool true, .bool s4, .string ⟨#[]⟩]] w fun e w' => e = .returned (.bool (ltA h3 l3 s3 h1 l1 s1 && leA h4 l4 s4 h2 l2 s2)) ∧ Plus w w' := by
  cases hq : ltA h3 l3 s3 h1 l1 s1
  · go_enter Tryz.func165, Tryz.ntmps165
    go_wp2_with (first | (go_at_call 102; (with_reducible refine (c102 _ _ _ _ _ _ _).mono ?_); rintro e w' ⟨rfl, dd, oo, rfl⟩) | (go_at_call 135; (with_reducible refine (c135 _ _ _ _ _ _ _).mono ?_); rintro e w' ⟨rfl, dd, oo, rfl⟩))
    go_ret
    exact ⟨rfl, by repeat (first | exact Plus.refl _ | refine Plus.alloc ?_ _ | refine Plus.plus ?_ _ _ | refine Plus.drew ?_ | refine Plus.drewN ?_ _)⟩
  · cases hp : leA h4 l4 s4 h2 l2 s2
    · go_enter Tryz.func165, Tryz.ntmps165
      go_wp2_with (first | (go_at_call 102; (with_reducible refine (c102 _ _ _ _ _ _ _).mono ?_); rintro e w' ⟨rfl, dd, oo, rfl⟩) | (go_at_call 135; (with_reducible refine (c135 _ _ _ _ _ _ _).mono ?_); rintro e w' ⟨rfl, dd, oo, rfl⟩))
      go_ret
      exact ⟨rfl, by repeat (first | exact Plus.refl _ | refine Plus.alloc ?_ _ | refine Plus.plus ?_ _ _ | refine Plus.drew ?_ | refine Plus.drewN ?_ _)⟩
    · go_enter Tryz.func165, Tryz.ntmps165
      go_wp2_with (first | (go_at_call 102; (with_reducible refine (c102 _ _ _ _ _ _ _).mono ?_); rintro e w' ⟨rfl, dd, oo, rfl⟩) | (go_at_call 135; (with_reducible refine (c135 _ _ _ _ _ _ _).mono ?_); rintro e w' ⟨rfl, dd, oo, rfl⟩))
      go_ret
      exact ⟨rfl, by repeat (first | exact Plus.refl _ | refine Plus.alloc ?_ _ | refine Plus.plus ?_ _ _ | refine Plus.drew ?_ | refine Plus.drewN ?_ _)⟩
theorem c104 (h1 l1 : Int) (s1 : Bool) (h2 l2 : Int) (s2 : Bool) (h3 l3 : Int) (s3 : Bool) (h4 l4 : Int) (s4 : Bool) (w : World) : Calls Tryz.prog 104 #[.agg #[.int .u64 h1, .int .u64 l1, .bool true, .bool s1, .string ⟨#[]⟩, .int .u64 h2, .int .u64 l2, .bool true, .bool s2, .string ⟨#[]⟩], .agg #[.int .u64 h3, .int .u64 l3, .bool true, .bool s3, .string ⟨#[]⟩, .int .u64 h4, .int .u64 l4, .bool true, .bool s4, .string ⟨#[]⟩]] w fun e w' => e = .returned (.bool (leA h3 l3 s3 h1 l1 s1 && leA h2 l2 s2 h4 l4 s4)) ∧ Plus w w' := by
  cases hq : leA h3 l3 s3 h1 l1 s1
  · go_enter Tryz.func104, Tryz.ntmps104
    go_wp2_with (first | (go_at_call 135; (with_reducible refine (c135 _ _ _ _ _ _ _).mono ?_); rintro e w' ⟨rfl, dd, oo, rfl⟩))
    go_ret
    exact ⟨rfl, by repeat (first | exact Plus.refl _ | refine Plus.alloc ?_ _ | refine Plus.plus ?_ _ _ | refine Plus.drew ?_ | refine Plus.drewN ?_ _)⟩
  · cases hp : leA h2 l2 s2 h4 l4 s4
    · go_enter Tryz.func104, Tryz.ntmps104
      go_wp2_with (first | (go_at_call 135; (with_reducible refine (c135 _ _ _ _ _ _ _).mono ?_); rintro e w' ⟨rfl, dd, oo, rfl⟩))
      go_ret
      exact ⟨rfl, by repeat (first | exact Plus.refl _ | refine Plus.alloc ?_ _ | refine Plus.plus ?_ _ _ | refine Plus.drew ?_ | refine Plus.drewN ?_ _)⟩
    · go_enter Tryz.func104, Tryz.ntmps104
      go_wp2_with (first | (go_at_call 135; (with_reducible refine (c135 _ _ _ _ _ _ _).mono ?_); rintro e w' ⟨rfl, dd, oo, rfl⟩))
      go_ret
      exact ⟨rfl, by repeat (first | exact Plus.refl _ | refine Plus.alloc ?_ _ | refine Plus.plus ?_ _ _ | refine Plus.drew ?_ | refine Plus.drewN ?_ _)⟩
theorem c103 (h1 l1 : Int) (s1 : Bool) (h2 l2 : Int) (s2 : Bool) (h3 l3 : Int) (s3 : Bool) (w : World) : Calls Tryz.prog 103 #[.agg #[.int .u64 h1, .int .u64 l1, .bool true, .bool s1, .string ⟨#[]⟩, .int .u64 h2, .int .u64 l2, .bool true, .bool s2, .string ⟨#[]⟩], .agg #[.int .u64 h3, .int .u64 l3, .bool true, .bool s3, .string ⟨#[]⟩]] w fun e w' => e = .returned (.bool (decide (cmpA h1 l1 s1 h3 l3 s3 ≤ 0) && decide (0 ≤ cmpA h2 l2 s2 h3 l3 s3))) ∧ Plus w w' := by
  by_cases hq : cmpA h1 l1 s1 h3 l3 s3 ≤ 0
  · by_cases hp : 0 ≤ cmpA h2 l2 s2 h3 l3 s3
    · go_enter Tryz.func103, Tryz.ntmps103
      go_wp2_with (first | (go_at_call 134; (with_reducible refine (c134 _ _ _ _ _ _ _).mono ?_); rintro e w' ⟨rfl, dd, oo, rfl⟩))
      go_ret
      exact ⟨ret_bool (by rw [decide_eq_true (show cmpA h1 l1 s1 h3 l3 s3 ≤ 0 by omega), decide_eq_true (show 0 ≤ cmpA h2 l2 s2 h3 l3 s3 by omega)]; rfl), by repeat (first | exact Plus.refl _ | refine Plus.alloc ?_ _ | refine Plus.plus ?_ _ _ | refine Plus.drew ?_ | refine Plus.drewN ?_ _)⟩
    · go_enter Tryz.func103, Tryz.ntmps103
      go_wp2_with (first | (go_at_call 134; (with_reducible refine (c134 _ _ _ _ _ _ _).mono ?_); rintro e w' ⟨rfl, dd, oo, rfl⟩))
      go_ret
      exact ⟨ret_bool (by rw [decide_eq_true (show cmpA h1 l1 s1 h3 l3 s3 ≤ 0 by omega), decide_eq_false (show ¬ 0 ≤ cmpA h2 l2 s2 h3 l3 s3 by omega)]; rfl), by repeat (first | exact Plus.refl _ | refine Plus.alloc ?_ _ | refine Plus.plus ?_ _ _ | refine Plus.drew ?_ | refine Plus.drewN ?_ _)⟩
  · go_enter Tryz.func103, Tryz.ntmps103
    go_wp2_with (first | (go_at_call 134; (with_reducible refine (c134 _ _ _ _ _ _ _).mono ?_); rintro e w' ⟨rfl, dd, oo, rfl⟩))
    go_ret
    exact ⟨ret_bool (by rw [decide_eq_false (show ¬ cmpA h1 l1 s1 h3 l3 s3 ≤ 0 by omega)]; rfl), by repeat (first | exact Plus.refl _ | refine Plus.alloc ?_ _ | refine Plus.plus ?_ _ _ | refine Plus.drew ?_ | refine Plus.drewN ?_ _)⟩
def lessA (h1 l1 h2 l2 h3 l3 h4 l4 : Int) (s1 s2 s3 s4 : Bool) : Bool := if cmpA h1 l1 s1 h3 l3 s3 = 0 then ltA h4 l4 s4 h2 l2 s2 else decide (cmpA h1 l1 s1 h3 l3 s3 < 0)
theorem c201 (h1 l1 : Int) (s1 : Bool) (h2 l2 : Int) (s2 : Bool) (h3 l3 : Int) (s3 : Bool) (h4 l4 : Int) (s4 : Bool) (w : World) : Calls Tryz.prog 201 #[.agg #[.int .u64 h1, .int .u64 l1, .bool true, .bool s1, .string ⟨#[]⟩, .int .u64 h2, .int .u64 l2, .bool true, .bool s2, .string ⟨#[]⟩], .agg #[.int .u64 h3, .int .u64 l3, .bool true, .bool s3, .string ⟨#[]⟩, .int .u64 h4, .int .u64 l4, .bool true, .bool s4, .string ⟨#[]⟩]] w fun e w' => e = .returned (.bool (lessA h1 l1 h2 l2 h3 l3 h4 l4 s1 s2 s3 s4)) ∧ Plus w w' := by
  by_cases hq : cmpA h1 l1 s1 h3 l3 s3 < 0
  · go_enter Tryz.func201, Tryz.ntmps201
    go_wp2_with (first | (go_at_call 134; (with_reducible refine (c134 _ _ _ _ _ _ _).mono ?_); rintro e w' ⟨rfl, dd, oo, rfl⟩) | (go_at_call 102; (with_reducible refine (c102 _ _ _ _ _ _ _).mono ?_); rintro e w' ⟨rfl, dd, oo, rfl⟩))
    go_ret
    exact ⟨ret_bool (by unfold lessA; rw [if_neg (by omega)]; first | rfl | (simp; omega)), by repeat (first | exact Plus.refl _ | refine Plus.alloc ?_ _ | refine Plus.plus ?_ _ _ | refine Plus.drew ?_ | refine Plus.drewN ?_ _)⟩

  by_cases hp : 0 < cmpA h1 l1 s1 h3 l3 s3
  · go_enter Tryz.func201, Tryz.ntmps201
    go_wp2_with (first | (go_at_call 134; (with_reducible refine (c134 _ _ _ _ _ _ _).mono ?_); rintro e w' ⟨rfl, dd, oo, rfl⟩) | (go_at_call 102; (with_reducible refine (c102 _ _ _ _ _ _ _).mono ?_); rintro e w' ⟨rfl, dd, oo, rfl⟩))
    go_ret
    exact ⟨ret_bool (by unfold lessA; rw [if_neg (by omega)]), by repeat (first | exact Plus.refl _ | refine Plus.alloc ?_ _ | refine Plus.plus ?_ _ _ | refine Plus.drew ?_ | refine Plus.drewN ?_ _)⟩

  · go_enter Tryz.func201, Tryz.ntmps201
    go_wp2_with (first | (go_at_call 134; (with_reducible refine (c134 _ _ _ _ _ _ _).mono ?_); rintro e w' ⟨rfl, dd, oo, rfl⟩) | (go_at_call 102; (with_reducible refine (c102 _ _ _ _ _ _ _).mono ?_); rintro e w' ⟨rfl, dd, oo, rfl⟩))
    go_ret
    exact ⟨ret_bool (by unfold lessA; rw [if_pos (by omega)]), by repeat (first | exact Plus.refl _ | refine Plus.alloc ?_ _ | refine Plus.plus ?_ _ _ | refine Plus.drew ?_ | refine Plus.drewN ?_ _)⟩

theorem c107 (h1 l1 h2 l2 : Int) (s : Bool) (w : World) (hq : ltA h2 l2 s h1 l1 s = false) : Calls Tryz.prog 107 #[.agg #[.int .u64 h1, .int .u64 l1, .bool true, .bool s, .string ⟨#[]⟩, .int .u64 h2, .int .u64 l2, .bool true, .bool s, .string ⟨#[]⟩]] w fun e w' => e = .returned (.bool true) ∧ Plus w w' := by
  cases s
  all_goals
    go_enter Tryz.func107, Tryz.ntmps107
    go_wp2_with fail
    refine wp_region_plus (by kernel_rfl) (by kernel_rfl) ?_
    repeat (go_big_quiet_step (first | (go_at_call 89; exact Calls.plus_of (c89 _ _ _ _)) | (go_at_call 97; exact Calls.plus_of (c97 _ _ _ _)) | (go_at_call 99; exact Calls.plus_of (c99 _ _ _ _)) | (go_at_call 102; exact Calls.plus_of (c102 _ _ _ _ _ _ _))))
    refine wpQuiet_nil ?_
    intro _ hq
    obtain ⟨⟨dq, oq⟩, rfl⟩ := hq
    go_wp2_with fail
    go_ret
    exact ⟨rfl, by repeat (first | exact Plus.refl _ | refine Plus.alloc ?_ _ | refine Plus.plus ?_ _ _ | refine Plus.drew ?_ | refine Plus.drewN ?_ _)⟩

theorem c105 (h1 l1 h2 l2 h3 l3 h4 l4 : Int) (s t : Bool) (w : World) (hq1 : ltA h2 l2 s h1 l1 s = false) (hq2 : ltA h4 l4 t h3 l3 t = false) : Calls Tryz.prog 105 #[.agg #[.int .u64 h1, .int .u64 l1, .bool true, .bool s, .string ⟨#[]⟩, .int .u64 h2, .int .u64 l2, .bool true, .bool s, .string ⟨#[]⟩], .agg #[.int .u64 h3, .int .u64 l3, .bool true, .bool t, .string ⟨#[]⟩, .int .u64 h4, .int .u64 l4, .bool true, .bool t, .string ⟨#[]⟩]] w fun e w' => e = .returned (.bool (decide (cmpA h1 l1 s h4 l4 t ≤ 0) && decide (cmpA h3 l3 t h2 l2 s ≤ 0))) ∧ Plus w w' := by
  have Hq1 : Hid _ := hq1
  have Hq2 : Hid _ := hq2
  clear hq1 hq2
  by_cases hq : cmpA h1 l1 s h4 l4 t ≤ 0
  · by_cases hp : cmpA h3 l3 t h2 l2 s ≤ 0
    · go_enter Tryz.func105, Tryz.ntmps105
      go_wp2_with (first | (go_at_call 107; (with_reducible refine (c107 _ _ _ _ _ _ ?_).mono ?_); (focus (first | exact Hq1.out | exact Hq2.out)); rintro e w' ⟨rfl, dd, oo, rfl⟩) | (go_at_call 134; (with_reducible refine (c134 _ _ _ _ _ _ _).mono ?_); rintro e w' ⟨rfl, dd, oo, rfl⟩))
      go_ret
      exact ⟨ret_bool (by rw [decide_eq_true (show cmpA h1 l1 s h4 l4 t ≤ 0 by omega), decide_eq_true (show cmpA h3 l3 t h2 l2 s ≤ 0 by omega)]; rfl), by repeat (first | exact Plus.refl _ | refine Plus.alloc ?_ _ | refine Plus.plus ?_ _ _ | refine Plus.drew ?_ | refine Plus.drewN ?_ _)⟩
    · go_enter Tryz.func105, Tryz.ntmps105
      go_wp2_with (first | (go_at_call 107; (with_reducible refine (c107 _ _ _ _ _ _ ?_).mono ?_); (focus (first | exact Hq1.out | exact Hq2.out)); rintro e w' ⟨rfl, dd, oo, rfl⟩) | (go_at_call 134; (with_reducible refine (c134 _ _ _ _ _ _ _).mono ?_); rintro e w' ⟨rfl, dd, oo, rfl⟩))
      go_ret
      exact ⟨ret_bool (by rw [decide_eq_true (show cmpA h1 l1 s h4 l4 t ≤ 0 by omega), decide_eq_false (show ¬ cmpA h3 l3 t h2 l2 s ≤ 0 by omega)]; rfl), by repeat (first | exact Plus.refl _ | refine Plus.alloc ?_ _ | refine Plus.plus ?_ _ _ | refine Plus.drew ?_ | refine Plus.drewN ?_ _)⟩
  · go_enter Tryz.func105, Tryz.ntmps105
    go_wp2_with (first | (go_at_call 107; (with_reducible refine (c107 _ _ _ _ _ _ ?_).mono ?_); (focus (first | exact Hq1.out | exact Hq2.out)); rintro e w' ⟨rfl, dd, oo, rfl⟩) | (go_at_call 134; (with_reducible refine (c134 _ _ _ _ _ _ _).mono ?_); rintro e w' ⟨rfl, dd, oo, rfl⟩))
    go_ret
    exact ⟨ret_bool (by rw [decide_eq_false (show ¬ cmpA h1 l1 s h4 l4 t ≤ 0 by omega)]; rfl), by repeat (first | exact Plus.refl _ | refine Plus.alloc ?_ _ | refine Plus.plus ?_ _ _ | refine Plus.drew ?_ | refine Plus.drewN ?_ _)⟩
end Go.Proofs.YtmoabfpdlbngeaaGreatDoor
end

section
/- math/bits.LeadingZeros64 by the shelf's contract, laid at this program. -/
namespace Go.Proofs
open Go.Shelf
def Tryz.lays134_ren : Go.Shelf.Ren := ⟨fun | 134 => 191 | 129 => 197 | n => n, fun | 53 => 36 | 3 => 3 | 4 => 4 | 46 => 146 | 5 => 5 | 9 => 9 | n => n, fun | n => n⟩
theorem Tryz.lays134 : Go.Proofs.Lays.n134 Tryz.prog Tryz.lays134_ren := {
  mixed := by kernel_rfl
  f129 := Tryz.func197.trans (congrArg some (by kernel_rfl))
  f134 := Tryz.func191.trans (congrArg some (by kernel_rfl))
  t3 := Tryz.underlying3
  a3 := Tryz.isAgg3
  z3 := Tryz.sizeOf3
  v3 := Tryz.zeroValue3
  t4 := Tryz.underlying4
  a4 := Tryz.isAgg4
  z4 := Tryz.sizeOf4
  v4 := Tryz.zeroValue4
  t5 := Tryz.underlying5
  a5 := Tryz.isAgg5
  z5 := Tryz.sizeOf5
  v5 := Tryz.zeroValue5
  t9 := Tryz.underlying9
  a9 := Tryz.isAgg9
  z9 := Tryz.sizeOf9
  v9 := Tryz.zeroValue9
  t46 := Tryz.underlying146
  a46 := Tryz.isAgg146
  z46 := Tryz.sizeOf146
  v46 := Tryz.zeroValue146
  t53 := Tryz.underlying36
  a53 := Tryz.isAgg36
  z53 := Tryz.sizeOf36
  v53 := Tryz.zeroValue36 }
/-- bits.LeadingZeros64: "LeadingZeros64 returns the number of leading zero bits in x; the result is 64 for x == 0.": IT RETURNS '64 - Lib.bitLen x'; the world is as it was. ITS CALLEE bits.Len64 IS MET BY ITS OWN CONTRACT OFF THE SHELF (lay that first): entered in place it sends the kernel out of memory. (LAID: no walk: one application.) -/
theorem Tryz.bits_LeadingZeros64 (x : Int) (w : World) (h0 : 0 ≤ x) (h1 : x ≤ 18446744073709551615) :
    Calls Tryz.prog 191 #[.int .u64 x] w fun e w' => e = .returned (.int .i64 (64 - (Lib.bitLen x.toNat : Int))) ∧ w' = w := Any.bits_LeadingZeros64 Tryz.lays134 x w h0 h1
end Go.Proofs
end

section
namespace Go.Proofs.YtmoabfpdlbngeaaGreatDoor
open Go.RowKit
set_option maxHeartbeats 400000
set_option linter.unusedVariables false
set_option linter.unusedSimpArgs false
theorem c95 (h l : Int) (s : Bool) (w : World) : Calls Tryz.prog 95 #[.agg #[.int .u64 h, .int .u64 l, .bool true, .bool s, .string ⟨#[]⟩], .string ⟨#[]⟩] w fun e w' => e = .returned (.agg #[.int .u64 h, .int .u64 l, .bool true, .bool s, .string ⟨#[]⟩]) ∧ Plus w w' := by
  cases s
  all_goals
    go_enter Tryz.func95, Tryz.ntmps95
    go_wp2_with (first | (go_at_call 133; (with_reducible refine (c133 _ _ _ _).mono ?_); rintro e w' ⟨rfl, dd, oo, rfl⟩) | (go_at_call 132; (with_reducible refine (c132 _).mono ?_); rintro e w' ⟨rfl, dd, oo, rfl⟩))
    exact bodyPost_ret (v := (.agg #[.int .u64 h, .int .u64 l, .bool true, .bool _, .string ⟨#[]⟩])) (by simp [results, Tryz.results95, go_sem, IntWalk.iteOmega, ↓IntWalk.iteOmega]) rfl ⟨rfl, by repeat (first | exact Plus.refl _ | refine Plus.alloc ?_ _ | refine Plus.plus ?_ _ _ | refine Plus.drew ?_ | refine Plus.drewN ?_ _)⟩

theorem c53 (h1 l1 : Int) (s1 : Bool) (h2 l2 : Int) (s2 : Bool) (w : World) : Calls Tryz.prog 53 #[.agg #[.int .u64 h1, .int .u64 l1, .bool true, .bool s1, .string ⟨#[]⟩], .agg #[.int .u64 h2, .int .u64 l2, .bool true, .bool s2, .string ⟨#[]⟩]] w fun e w' => e = .returned (.agg #[.int .u64 h1, .int .u64 l1, .bool true, .bool s1, .string ⟨#[]⟩, .int .u64 h2, .int .u64 l2, .bool true, .bool s2, .string ⟨#[]⟩]) ∧ Plus w w' := by
  go_enter Tryz.func53, Tryz.ntmps53
  go_wp2_with fail
  refine wp_region_plus_tail 5 (by kernel_rfl) (by kernel_rfl) ?_
  simp only [List.take_succ_cons, List.take_zero, List.drop_succ_cons, List.drop_zero]
  repeat (go_big_quiet_step (first | (go_at_call 95; exact Calls.plus_of (c95 _ _ _ _))))
  refine wpQuiet_nil ?_
  intro _ hq
  obtain ⟨⟨dq, oq⟩, rfl⟩ := hq
  go_wp2_with fail
  exact bodyPost_ret (v := .agg #[.int .u64 h1, .int .u64 l1, .bool true, .bool s1, .string ⟨#[]⟩, .int .u64 h2, .int .u64 l2, .bool true, .bool s2, .string ⟨#[]⟩]) (by simp [results, Tryz.results53, go_sem, IntWalk.iteOmega, ↓IntWalk.iteOmega]) rfl ⟨rfl, by repeat (first | exact Plus.refl _ | refine Plus.alloc ?_ _ | refine Plus.plus ?_ _ _ | refine Plus.drew ?_ | refine Plus.drewN ?_ _)⟩

theorem c32 (h1 l1 : Int) (s1 : Bool) (h2 l2 : Int) (s2 : Bool) (w : World) : Calls Tryz.prog 32 #[.agg #[.int .u64 h1, .int .u64 l1, .bool true, .bool s1, .string ⟨#[]⟩, .int .u64 h2, .int .u64 l2, .bool true, .bool s2, .string ⟨#[]⟩]] w fun e w' => e = .returned (.agg #[.int .u64 h1, .int .u64 l1, .bool true, .bool s1, .string ⟨#[]⟩]) ∧ Plus w w' := by
  go_enter Tryz.func32, Tryz.ntmps32
  go_wp2_with fail

  exact bodyPost_ret (v := .agg #[.int .u64 h1, .int .u64 l1, .bool true, .bool s1, .string ⟨#[]⟩]) (by simp [results, Tryz.results32, go_sem, IntWalk.iteOmega, ↓IntWalk.iteOmega]) rfl ⟨rfl, by repeat (first | exact Plus.refl _ | refine Plus.alloc ?_ _ | refine Plus.plus ?_ _ _ | refine Plus.drew ?_ | refine Plus.drewN ?_ _)⟩

theorem c33 (h1 l1 : Int) (s1 : Bool) (h2 l2 : Int) (s2 : Bool) (w : World) : Calls Tryz.prog 33 #[.agg #[.int .u64 h1, .int .u64 l1, .bool true, .bool s1, .string ⟨#[]⟩, .int .u64 h2, .int .u64 l2, .bool true, .bool s2, .string ⟨#[]⟩]] w fun e w' => e = .returned (.agg #[.int .u64 h2, .int .u64 l2, .bool true, .bool s2, .string ⟨#[]⟩]) ∧ Plus w w' := by
  go_enter Tryz.func33, Tryz.ntmps33
  go_wp2_with fail

  exact bodyPost_ret (v := .agg #[.int .u64 h2, .int .u64 l2, .bool true, .bool s2, .string ⟨#[]⟩]) (by simp [results, Tryz.results33, go_sem, IntWalk.iteOmega, ↓IntWalk.iteOmega]) rfl ⟨rfl, by repeat (first | exact Plus.refl _ | refine Plus.alloc ?_ _ | refine Plus.plus ?_ _ _ | refine Plus.drew ?_ | refine Plus.drewN ?_ _)⟩

theorem c43 (h l : Int) (s : Bool) (b : Int) (w : World) : Calls Tryz.prog 43 #[.agg #[.int .u64 h, .int .u64 l, .bool true, .bool s, .string ⟨#[]⟩, .int .u8 b]] w fun e w' => e = .returned (.agg #[.int .u64 h, .int .u64 l, .bool true, .bool s, .string ⟨#[]⟩]) ∧ Plus w w' := by
  go_enter Tryz.func43, Tryz.ntmps43
  go_wp2_with fail

  exact bodyPost_ret (v := .agg #[.int .u64 h, .int .u64 l, .bool true, .bool s, .string ⟨#[]⟩]) (by simp [results, Tryz.results43, go_sem, IntWalk.iteOmega, ↓IntWalk.iteOmega]) rfl ⟨rfl, by repeat (first | exact Plus.refl _ | refine Plus.alloc ?_ _ | refine Plus.plus ?_ _ _ | refine Plus.drew ?_ | refine Plus.drewN ?_ _)⟩

theorem c44 (h l : Int) (s : Bool) (b : Int) (b0 : 0 ≤ b) (b1 : b ≤ 255) (w : World) : Calls Tryz.prog 44 #[.agg #[.int .u64 h, .int .u64 l, .bool true, .bool s, .string ⟨#[]⟩, .int .u8 b]] w fun e w' => e = .returned (.int .i64 (b - 1)) ∧ Plus w w' := by
  go_enter Tryz.func44, Tryz.ntmps44
  go_wp2_with fail

  go_ret
  exact ⟨rfl, by repeat (first | exact Plus.refl _ | refine Plus.alloc ?_ _ | refine Plus.plus ?_ _ _ | refine Plus.drew ?_ | refine Plus.drewN ?_ _)⟩

theorem c120 (h l : Int) (s : Bool) (b : Int) (b0 : 1 ≤ b) (w : World) : Calls Tryz.prog 120 #[.agg #[.int .u64 h, .int .u64 l, .bool true, .bool s, .string ⟨#[]⟩, .int .u8 b]] w fun e w' => e = .returned (.bool true) ∧ Plus w w' := by
  go_enter Tryz.func120, Tryz.ntmps120
  go_wp2_with fail

  go_ret
  exact ⟨ret_bool (by simp; omega), by repeat (first | exact Plus.refl _ | refine Plus.alloc ?_ _ | refine Plus.plus ?_ _ _ | refine Plus.drew ?_ | refine Plus.drewN ?_ _)⟩

theorem c54_false (h l n : Int) (n0 : 0 ≤ n) (n1 : n ≤ 32) (w : World) : Calls Tryz.prog 54 #[.agg #[.int .u64 h, .int .u64 l, .bool true, .bool false, .string ⟨#[]⟩], .int .i64 n] w fun e w' => e = .returned (.agg #[.int .u64 h, .int .u64 l, .bool true, .bool false, .string ⟨#[]⟩, .int .u8 (n + 1)]) ∧ Plus w w' := by
  go_enter Tryz.func54, Tryz.ntmps54
  go_wp2_with (first | (go_at_call 96; (with_reducible refine (c96 _ _ _ _).mono ?_); rintro e w' ⟨rfl, dd, oo, rfl⟩) | (go_at_call 97; (with_reducible refine (c97 _ _ _ _).mono ?_); rintro e w' ⟨rfl, dd, oo, rfl⟩) | (go_at_call 98; (with_reducible refine (c98 _ _ _ _).mono ?_); rintro e w' ⟨rfl, dd, oo, rfl⟩))
  exact bodyPost_ret (v := .agg #[.int .u64 h, .int .u64 l, .bool true, .bool false, .string ⟨#[]⟩, .int .u8 (n + 1)]) (by simp [results, Tryz.results54, go_sem, IntWalk.iteOmega, ↓IntWalk.iteOmega]) rfl ⟨rfl, by repeat (first | exact Plus.refl _ | refine Plus.alloc ?_ _ | refine Plus.plus ?_ _ _ | refine Plus.drew ?_ | refine Plus.drewN ?_ _)⟩

theorem c54_true (h l n : Int) (n0 : 0 ≤ n) (n1 : n ≤ 128) (w : World) : Calls Tryz.prog 54 #[.agg #[.int .u64 h, .int .u64 l, .bool true, .bool true, .string ⟨#[]⟩], .int .i64 n] w fun e w' => e = .returned (.agg #[.int .u64 h, .int .u64 l, .bool true, .bool true, .string ⟨#[]⟩, .int .u8 (n + 1)]) ∧ Plus w w' := by
  go_enter Tryz.func54, Tryz.ntmps54
  go_wp2_with (first | (go_at_call 96; (with_reducible refine (c96 _ _ _ _).mono ?_); rintro e w' ⟨rfl, dd, oo, rfl⟩) | (go_at_call 97; (with_reducible refine (c97 _ _ _ _).mono ?_); rintro e w' ⟨rfl, dd, oo, rfl⟩) | (go_at_call 98; (with_reducible refine (c98 _ _ _ _).mono ?_); rintro e w' ⟨rfl, dd, oo, rfl⟩))
  exact bodyPost_ret (v := .agg #[.int .u64 h, .int .u64 l, .bool true, .bool true, .string ⟨#[]⟩, .int .u8 (n + 1)]) (by simp [results, Tryz.results54, go_sem, IntWalk.iteOmega, ↓IntWalk.iteOmega]) rfl ⟨rfl, by repeat (first | exact Plus.refl _ | refine Plus.alloc ?_ _ | refine Plus.plus ?_ _ _ | refine Plus.drew ?_ | refine Plus.drewN ?_ _)⟩

def nxH (h l : Int) : Int := IntKind.u64.wrap (h + hi64 (l + 1))
def nxL (l : Int) : Int := lo64 (l + 1)
def mxA (h l : Int) (s : Bool) : Bool := cond s (bits .or .u64 (nxH h l) (nxL l) == 0) (nxL l % 4294967296 == 0)
theorem c187n (h l : Int) (hl : 0 ≤ l) (w : World) : Calls Tryz.prog 187 #[.agg #[.int .u64 h, .int .u64 l]] w fun e w' => e = .returned (.agg #[.int .u64 (nxH h l), .int .u64 (nxL l)]) ∧ Plus w w' := c187 h l hl w
theorem c188n (h l : Int) (w : World) : Calls Tryz.prog 188 #[.agg #[.int .u64 h, .int .u64 l]] w fun e w' => e = .returned (.bool (bits .or .u64 h l == 0)) ∧ Plus w w' := c188 h l w
theorem c163z (h l : Int) (s : Bool) (hl : 0 ≤ l) (hm : mxA h l s = true) (w : World) : Calls Tryz.prog 163 #[.agg #[.int .u64 h, .int .u64 l, .bool true, .bool s, .string ⟨#[]⟩]] w fun e w' => e = .returned (.agg #[.int .u64 0, .int .u64 0, .bool false, .bool false, .string ⟨#[]⟩]) ∧ Plus w w' := by
  cases s
  · have hf : (nxL l % 4294967296 == 0) = true := hm
    clear hm
    go_enter Tryz.func163, Tryz.ntmps163
    go_wp2_with (first | (go_at_call 187; (with_reducible refine (c187n _ _ hl _).mono ?_); rintro e w' ⟨rfl, dd, oo, rfl⟩) | (go_at_call 121; (with_reducible refine (c121 _ _ _ _).mono ?_); rintro e w' ⟨rfl, dd, oo, rfl⟩) | (go_at_call 188; (with_reducible refine (c188n _ _ _).mono ?_); rintro e w' ⟨rfl, dd, oo, rfl⟩))
    exact bodyPost_ret (v := .agg #[.int .u64 0, .int .u64 0, .bool false, .bool false, .string ⟨#[]⟩]) (by simp [results, Tryz.results163, go_sem, IntWalk.iteOmega, ↓IntWalk.iteOmega]) rfl ⟨rfl, by repeat (first | exact Plus.refl _ | refine Plus.alloc ?_ _ | refine Plus.plus ?_ _ _ | refine Plus.drew ?_ | refine Plus.drewN ?_ _)⟩

  · have hf : (bits .or .u64 (nxH h l) (nxL l) == 0) = true := hm
    clear hm
    go_enter Tryz.func163, Tryz.ntmps163
    go_wp2_with (first | (go_at_call 187; (with_reducible refine (c187n _ _ hl _).mono ?_); rintro e w' ⟨rfl, dd, oo, rfl⟩) | (go_at_call 121; (with_reducible refine (c121 _ _ _ _).mono ?_); rintro e w' ⟨rfl, dd, oo, rfl⟩) | (go_at_call 188; (with_reducible refine (c188n _ _ _).mono ?_); rintro e w' ⟨rfl, dd, oo, rfl⟩))
    exact bodyPost_ret (v := .agg #[.int .u64 0, .int .u64 0, .bool false, .bool false, .string ⟨#[]⟩]) (by simp [results, Tryz.results163, go_sem, IntWalk.iteOmega, ↓IntWalk.iteOmega]) rfl ⟨rfl, by repeat (first | exact Plus.refl _ | refine Plus.alloc ?_ _ | refine Plus.plus ?_ _ _ | refine Plus.drew ?_ | refine Plus.drewN ?_ _)⟩

theorem c163n (h l : Int) (s : Bool) (hl : 0 ≤ l) (hm : mxA h l s = false) (w : World) : Calls Tryz.prog 163 #[.agg #[.int .u64 h, .int .u64 l, .bool true, .bool s, .string ⟨#[]⟩]] w fun e w' => e = .returned (.agg #[.int .u64 (nxH h l), .int .u64 (nxL l), .bool true, .bool s, .string ⟨#[]⟩]) ∧ Plus w w' := by
  cases s
  · have hf : (nxL l % 4294967296 == 0) = false := hm
    clear hm
    go_enter Tryz.func163, Tryz.ntmps163
    go_wp2_with (first | (go_at_call 187; (with_reducible refine (c187n _ _ hl _).mono ?_); rintro e w' ⟨rfl, dd, oo, rfl⟩) | (go_at_call 121; (with_reducible refine (c121 _ _ _ _).mono ?_); rintro e w' ⟨rfl, dd, oo, rfl⟩) | (go_at_call 188; (with_reducible refine (c188n _ _ _).mono ?_); rintro e w' ⟨rfl, dd, oo, rfl⟩))
    exact bodyPost_ret (v := .agg #[.int .u64 (nxH h l), .int .u64 (nxL l), .bool true, .bool false, .string ⟨#[]⟩]) (by simp [results, Tryz.results163, go_sem, IntWalk.iteOmega, ↓IntWalk.iteOmega]) rfl ⟨rfl, by repeat (first | exact Plus.refl _ | refine Plus.alloc ?_ _ | refine Plus.plus ?_ _ _ | refine Plus.drew ?_ | refine Plus.drewN ?_ _)⟩

  · have hf : (bits .or .u64 (nxH h l) (nxL l) == 0) = false := hm
    clear hm
    go_enter Tryz.func163, Tryz.ntmps163
    go_wp2_with (first | (go_at_call 187; (with_reducible refine (c187n _ _ hl _).mono ?_); rintro e w' ⟨rfl, dd, oo, rfl⟩) | (go_at_call 121; (with_reducible refine (c121 _ _ _ _).mono ?_); rintro e w' ⟨rfl, dd, oo, rfl⟩) | (go_at_call 188; (with_reducible refine (c188n _ _ _).mono ?_); rintro e w' ⟨rfl, dd, oo, rfl⟩))
    exact bodyPost_ret (v := .agg #[.int .u64 (nxH h l), .int .u64 (nxL l), .bool true, .bool true, .string ⟨#[]⟩]) (by simp [results, Tryz.results163, go_sem, IntWalk.iteOmega, ↓IntWalk.iteOmega]) rfl ⟨rfl, by repeat (first | exact Plus.refl _ | refine Plus.alloc ?_ _ | refine Plus.plus ?_ _ _ | refine Plus.drew ?_ | refine Plus.drewN ?_ _)⟩

def mkH6 (n : Int) : Int := bits .xor .u64 IntKind.u64.max (18446744073709551615 / 2 ^ min n.toNat 64)
def mkL6 (n : Int) : Int := IntKind.u64.wrap (18446744073709551615 * 2 ^ min (128 - n).toNat 64)
theorem c190 (n : Int) (h0 : 0 ≤ n) (h1 : n ≤ 128) (w : World) : Calls Tryz.prog 190 #[.int .i64 n] w fun e w' => e = .returned (.agg #[.int .u64 (mkH6 n), .int .u64 (mkL6 n)]) ∧ Plus w w' := by
  have hw : IntKind.i64.wrap (128 - n) = 128 - n := IntWalk.i64_in _ (by omega)
  have h2 : 0 ≤ 128 - n := by omega
  go_enter Tryz.func190, Tryz.ntmps190
  go_wp2_with fail
  refine wp_region_plus_tail 7 (by kernel_rfl) (by kernel_rfl) ?_
  simp only [List.take_succ_cons, List.take_zero, List.drop_succ_cons, List.drop_zero]
  repeat (go_big_quiet_step (fail))
  refine wpQuiet_nil ?_
  intro _ hq
  obtain ⟨⟨dq, oq⟩, rfl⟩ := hq
  go_wp2_with fail
  exact bodyPost_ret (v := .agg #[.int .u64 (mkH6 n), .int .u64 (mkL6 n)]) (by simp [results, Tryz.results190, go_sem, IntWalk.iteOmega, ↓IntWalk.iteOmega, mkH6, mkL6]) rfl ⟨rfl, by repeat (first | exact Plus.refl _ | refine Plus.alloc ?_ _ | refine Plus.plus ?_ _ _ | refine Plus.drew ?_ | refine Plus.drewN ?_ _)⟩
end Go.Proofs.YtmoabfpdlbngeaaGreatDoor
end
