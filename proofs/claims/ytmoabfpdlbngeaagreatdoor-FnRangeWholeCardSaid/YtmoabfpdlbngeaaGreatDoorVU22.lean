/-
  Part of the proofs on the laws of pub-addresssets: joined texts (U22, U23).
-/
import Derived.Test.YtmoabfpdlbngeaaGreatDoorVU21
import Derived.Test.YtmoabfpdlbngeaaGreatDoorVSh
section
namespace Go.Proofs.YtmoabfpdlbngeaaGreatDoor
open Go.RowKit
set_option maxHeartbeats 400000
set_option linter.unusedVariables false
set_option linter.unusedSimpArgs false
/-- Where the first byte of a text lies that is no digit, and which one it is. -/
structure SepF (l : List Nat) (P sep : Nat) : Prop where
  lt : P < l.length
  val : l.getD P 0 = sep
  no : ∀ j, j < P → l.getD j 0 ≠ 46 ∧ l.getD j 0 ≠ 58 ∧ l.getD j 0 ≠ 37
theorem sep4 (k : Nat) : SepF (txt4 k) (decB (b4 k 0)).length 46 := by
  have T := t4_facts k
  have h1 := T.2.1 0 (by omega)
  have D := decF _ (b4_lt k 0)
  rw [show dOff (b4 k) 0 = 0 from rfl, Nat.zero_add] at h1
  refine ⟨by omega, h1.2, fun j hj => ?_⟩
  have h2 := T.1 0 (by omega) j hj
  rw [show dOff (b4 k) 0 = 0 from rfl, Nat.zero_add] at h2
  have h3 := D.dg j hj
  omega
theorem sep6 (k : Nat) : ∃ P, SepF (txt6 (g6 k)) P 58 := by
  obtain ⟨st, en, m, hm, hcase, hz, htx⟩ := txt6_tt (g6 k)
  rw [htx]
  by_cases h0 : st = 0
  · rw [if_pos h0]
    exact ⟨0, by simp, rfl, fun j hj => absurd hj (by omega)⟩
  · rw [if_neg h0, List.nil_append]
    obtain ⟨m1, rfl⟩ : ∃ m1, m = m1 + 1 := ⟨m - 1, by omega⟩
    have H := hexF _ (wdW_lt k st en 0)
    obtain ⟨tl, htl⟩ : ∃ tl, ttT (g6 k) st en (m1 + 1) 0 = hexB (wdW (g6 k) st en 0) ++ 58 :: tl := by
      rw [ttT]
      by_cases h1 : 0 + 1 = st
      · rw [if_pos h1]; exact ⟨_, rfl⟩
      · rw [if_neg h1, if_neg (by omega)]; exact ⟨_, rfl⟩
    rw [htl]
    generalize hexB (wdW (g6 k) st en 0) = D at *
    refine ⟨D.length, by simp, by simp [List.getD_eq_getElem?_getD], fun j hj => ?_⟩
    obtain ⟨d, hd, e, _⟩ := H.dg j hj
    have e2 : (D ++ 58 :: tl).getD j 0 = D.getD j 0 := by simp [List.getD_eq_getElem?_getD, List.getElem?_append_left hj]
    rw [e2, e]
    have := dig_bd d hd
    omega
set_option maxRecDepth 100000 in
set_option maxHeartbeats 4000000 in
theorem c116 (k : Nat) (o : okK k) (w : World) : Calls Tryz.prog 116 #[.string (toB (txtK k))] w fun e w' => e = .returned (.tuple #[.agg #[.int .u64 (hK k), .int .u64 (lK k), .bool true, .bool (sK k), .string ⟨#[]⟩], .nilIface]) ∧ Plus w w' := by
  have hlt : LtB (txtK k) := by
    unfold txtK
    split
    · exact txt6_lt k
    · exact txt4_lt k
  have hn := txtK_len k
  have hlen := fun w ty => toB_len (txtK k) (by omega) w ty
  have FX : Hid (∀ i, i < (txtK k).length → ∀ kk w, (Instr.index 9 (.string (toB (txtK k))) (.int kk ((i : Nat) : Int))).run Tryz.prog w = .ok (.int .u8 (((txtK k).getD i 0 : Nat) : Int)) w) := fun i hi kk w => toB_ix _ hlt i hi kk w
  obtain ⟨P, sep, HSP, HSE⟩ : ∃ P sep, Hid (SepF (txtK k) P sep) ∧ Hid ((sep = 46 ∧ ∀ w, Calls Tryz.prog 152 #[.string (toB (txtK k))] w fun e w' => e = .returned (.tuple #[.agg #[.int .u64 (hK k), .int .u64 (lK k), .bool true, .bool (sK k), .string ⟨#[]⟩], .nilIface]) ∧ Plus w w') ∨ (sep = 58 ∧ ∀ w, Calls Tryz.prog 153 #[.string (toB (txtK k))] w fun e w' => e = .returned (.tuple #[.agg #[.int .u64 (hK k), .int .u64 (lK k), .bool true, .bool (sK k), .string ⟨#[]⟩], .nilIface]) ∧ Plus w w')) := by
    unfold txtK
    by_cases hs : sK k = true
    · rw [if_pos hs]
      obtain ⟨P, h⟩ := sep6 k
      exact ⟨P, 58, h, .inr ⟨rfl, fun w => c153 k o hs w⟩⟩
    · rw [if_neg hs]
      exact ⟨_, 46, sep4 k, .inl ⟨rfl, fun w => c152 k o (by simpa using hs) w⟩⟩
  have hPl : P < (txtK k).length := HSP.out.lt
  clear hlt o
  generalize toB (txtK k) = S at *
  have HX : Hid (∃ G : Nat → Nat, (∀ i, i < (txtK k).length → ∀ kk w, (Instr.index 9 (.string S) (.int kk ((i : Nat) : Int))).run Tryz.prog w = .ok (.int .u8 ((G i : Nat) : Int)) w) ∧ G P = sep ∧ ∀ j, j < P → G j ≠ 46 ∧ G j ≠ 58 ∧ G j ≠ 37) := ⟨fun i => (txtK k).getD i 0, FX.out, HSP.out.val, HSP.out.no⟩
  clear FX HSP
  generalize (txtK k).length = n at *
  obtain ⟨G, F1, F2, F3⟩ := HX.out
  have FX : Hid (∀ i, i < n → ∀ kk w, (Instr.index 9 (.string S) (.int kk ((i : Nat) : Int))).run Tryz.prog w = .ok (.int .u8 ((G i : Nat) : Int)) w) := F1
  have FP : Hid (G P = sep) := F2
  have FN : Hid (∀ j, j < P → G j ≠ 46 ∧ G j ≠ 58 ∧ G j ≠ 37) := F3
  clear HX F1 F2 F3
  go_enter Tryz.func116, Tryz.ntmps116

  go_wp2_with fail
  go_loopw [4] (fun t4 wr => ∃ i : Nat, t4 = .int .i64 ((i : Nat) : Int) ∧ i ≤ P ∧ Hid (Chg (fun _ => False) (w.alloc (.cells #[.int .u64 0, .int .u64 0, .bool false, .bool false, .string ⟨#[]⟩] 78)) wr))
    (fun t4 _ => n - (intOf t4).toNat)
  case atStart => exact ⟨0, rfl, Nat.zero_le _, Chg.refl _ _⟩
  case round =>
    obtain ⟨i, rfl, hi, X⟩ := hrel
    obtain ⟨W0, rfl⟩ : ∃ x, x = wr := ⟨_, rfl⟩
    have z0 : decide ((i : Int) < (n : Int)) = true := decide_eq_true (by omega)
    have hx := FX.out i (by omega)
    by_cases hlt : i < P
    · obtain ⟨f1, f2, f3⟩ := FN.out i hlt
      generalize G i = v at *
      have z1 : (((v : Nat) : Int) == 46) = false := by rw [beq_eq_false_iff_ne]; omega
      have z2 : (((v : Nat) : Int) == 58) = false := by rw [beq_eq_false_iff_ne]; omega
      have z3 : (((v : Nat) : Int) == 37) = false := by rw [beq_eq_false_iff_ne]; omega
      clear f1 f2 f3
      go_wp2_with fail
      go_roundw
      case rel => exact ⟨i + 1, by go_num, by omega, X.out.trans (by (repeat (with_reducible first | exact Chg.refl _ _ | refine Chg.plus ?_ _ _ | refine Chg.alloc ?_ _ | refine Chg.drew ?_)))⟩
      case measure => simp [intOf]; omega
    · obtain rfl : i = P := by omega
      have hb : W0.heap[w.heap.size]? = some (.cells #[.int .u64 0, .int .u64 0, .bool false, .bool false, .string ⟨#[]⟩] 78 (0, 0)) := heap_chg (F := fun _ => False) X.out (blk_new rfl) id
      have HC : Hid (Chg (fun _ => False) w W0) := Chg.trans ((Chg.refl _ _).alloc _) X.out
      obtain ⟨ca0, ca1, ca2, ca3, ca4, hBl, hfr⟩ := box5 hb
      rw [FP.out] at hx
      clear hb X
      rcases HSE.out with ⟨rfl, CC⟩ | ⟨rfl, CC⟩
      all_goals
        have HCC : Hid _ := CC
        clear CC HSE
        go_wp2_with (first | (go_at_call 152; (with_reducible refine (HCC.out _).mono ?_); rintro e w' ⟨rfl, dd, oo, rfl⟩) | (go_at_call 153; (with_reducible refine (HCC.out _).mono ?_); rintro e w' ⟨rfl, dd, oo, rfl⟩))
        refine bodyPost_ret (v := .tuple #[.agg #[.int .u64 (hK k), .int .u64 (lK k), .bool true, .bool (sK k), .string ⟨#[]⟩], .nilIface]) (by simp [results, Tryz.results116, go_sem, IntWalk.iteOmega, ↓IntWalk.iteOmega, ca0, ca1, ca2, ca3, ca4, hBl]) rfl ⟨rfl, (Chg.plus (chg5 HC.out _ _ _ _ _) dd oo).plus_of (fun _ _ => id)⟩
end Go.Proofs.YtmoabfpdlbngeaaGreatDoor
end

section
namespace Go.Proofs.YtmoabfpdlbngeaaGreatDoor
open Go.RowKit
set_option maxHeartbeats 400000
set_option linter.unusedVariables false
set_option linter.unusedSimpArgs false
theorem ixB (r : List UInt8) (c : UInt8) : ∀ l : List UInt8, (∀ b, b ∈ l → b ≠ c) → Lib.indexByte (l ++ c :: r) c = ((l.length : Nat) : Int)
  | [], _ => by simp [Lib.indexByte]
  | b :: l, h => by
    have ih := ixB r c l (fun x hx => h x (List.mem_cons_of_mem _ hx))
    have hb : (b == c) = false := by rw [beq_eq_false_iff_ne]; exact h b (List.mem_cons_self ..)
    rw [List.cons_append, Lib.indexByte, hb, ih]
    have : (((l.length : Nat) : Int) == -1) = false := by rw [beq_eq_false_iff_ne]; omega
    rw [this]
    simp
theorem k114 (a b : List Nat) (ha : ∀ x, x ∈ a → x < 128 ∧ x ≠ 45) (w : World) : Calls Tryz.prog 114 #[.string (toB (a ++ 45 :: b)), .int .u8 45] w fun e w' => e = .returned (.int .i64 ((a.length : Nat) : Int)) ∧ w' = w := by
  have h := Tryz.strings_IndexByte (toB (a ++ 45 :: b)) 45 w
  have e : Lib.indexByte (toB (a ++ 45 :: b)).data.toList (Int.toNat 45).toUInt8 = ((a.length : Nat) : Int) := by
    have e1 : (toB (a ++ 45 :: b)).data.toList = a.map UInt8.ofNat ++ (45 : UInt8) :: b.map UInt8.ofNat := by simp [toB]
    rw [e1]
    refine (ixB _ _ _ (fun x hx => ?_)).trans (by rw [List.length_map])
    obtain ⟨y, hy, rfl⟩ := List.mem_map.1 hx
    obtain ⟨y1, y2⟩ := ha y hy
    intro q
    have := congrArg UInt8.toNat q
    simp at this
    omega
  rw [e] at h
  exact h
theorem txtK_bd (k : Nat) : ∀ x, x ∈ txtK k → x < 128 ∧ x ≠ 45 := fun x hx => by
  unfold txtK at hx
  split at hx
  · obtain ⟨st, en, m, hm, hcase, hz, htx⟩ := txt6_tt (g6 k)
    rw [htx] at hx
    rcases List.mem_append.1 hx with h | h
    · split at h
      · simp at h; omega
      · simp at h
    · have := (tt_okB _ _ _ (wdW_lt k st en) _ _ x h).bd
      exact ⟨this.1, this.2.2.1⟩
  · refine ⟨txt4_lt k x hx, ?_⟩
    have D : ∀ i, i < 4 → ∀ y, y ∈ decB (b4 k i) → y ≠ 45 := fun i hi y hy => by
      obtain ⟨j, hj, e⟩ := List.mem_iff_getElem.1 hy
      have h := (decF _ (b4_lt k i)).dg j hj
      have e3 : (decB (b4 k i)).getD j 0 = (decB (b4 k i))[j] := by simp [List.getD_eq_getElem?_getD, List.getElem?_eq_getElem hj]
      omega
    simp only [txt4, List.mem_append, List.mem_singleton] at hx
    rcases hx with (((((h | h) | h) | h) | h) | h) | h
    · exact D 0 (by omega) x h
    · omega
    · exact D 1 (by omega) x h
    · omega
    · exact D 2 (by omega) x h
    · omega
    · exact D 3 (by omega) x h
set_option maxRecDepth 100000 in
set_option maxHeartbeats 4000000 in
theorem c64 (r : Nat × Nat) (or : okR r) (w : World) : Calls Tryz.prog 64 #[.string (toB (txtK r.1 ++ 45 :: txtK r.2))] w fun e w' => e = .returned (.tuple #[.agg #[.int .u64 (hK r.1), .int .u64 (lK r.1), .bool true, .bool (sK r.1), .string ⟨#[]⟩, .int .u64 (hK r.2), .int .u64 (lK r.2), .bool true, .bool (sK r.2), .string ⟨#[]⟩], .nilIface]) ∧ Plus w w' := by
  have K : Hid (∀ w, Calls Tryz.prog 114 #[.string (toB (txtK r.1 ++ 45 :: txtK r.2)), .int .u8 45] w fun e w' => e = .returned (.int .i64 (((txtK r.1).length : Nat) : Int)) ∧ w' = w) := k114 _ _ (txtK_bd r.1)
  have hs1 := toB_to (txtK r.1 ++ 45 :: txtK r.2) (txtK r.1).length (by simp)
  have hs2 := toB_from (txtK r.1 ++ 45 :: txtK r.2) ((txtK r.1).length + 1) (by simp)
  rw [show (txtK r.1 ++ 45 :: txtK r.2).take (txtK r.1).length = txtK r.1 by simp] at hs1
  rw [show (txtK r.1 ++ 45 :: txtK r.2).drop ((txtK r.1).length + 1) = txtK r.2 by rw [List.drop_append]; simp, show (((txtK r.1).length + 1 : Nat) : Int) = (((txtK r.1).length : Nat) : Int) + 1 by omega] at hs2
  have C1 : Hid _ := fun w => c116 r.1 or.a w
  have C2 : Hid _ := fun w => c116 r.2 or.b w
  have HOR : Hid _ := or
  have hn82 : (txtK r.1).length ≤ 82 := txtK_len r.1
  have z0 : ((((txtK r.1).length : Nat) : Int) == -1) = false := by rw [beq_eq_false_iff_ne]; omega
  generalize toB (txtK r.1 ++ 45 :: txtK r.2) = S at *
  generalize toB (txtK r.1) = S1 at *
  generalize toB (txtK r.2) = S2 at *
  generalize (txtK r.1).length = n at *
  clear or
  go_enter Tryz.func64, Tryz.ntmps64

  go_wp2_with (first | (go_at_call 114; (with_reducible refine (K.out _).mono ?_); rintro e w' ⟨rfl, rfl⟩))
  refine wp_region_plus (by kernel_rfl) (by kernel_rfl) ?_
  repeat (go_big_quiet_step (fail))
  refine wpQuiet_nil ?_
  intro _ hq
  obtain ⟨⟨dq, oq⟩, rfl⟩ := hq
  go_wp2_with (first | (go_at_call 116; (with_reducible first | refine (C1.out _).mono ?_ | refine (C2.out _).mono ?_); rintro e w' ⟨rfl, dd, oo, rfl⟩) | (go_at_call 95; (with_reducible refine (c95 _ _ _ _).mono ?_); rintro e w' ⟨rfl, dd, oo, rfl⟩) | (go_at_call 107; (with_reducible refine (k107 r HOR.out _).mono ?_); rintro e w' ⟨rfl, dd, oo, rfl⟩))
  exact bodyPost_ret (v := .tuple #[.agg #[.int .u64 (hK r.1), .int .u64 (lK r.1), .bool true, .bool (sK r.1), .string ⟨#[]⟩, .int .u64 (hK r.2), .int .u64 (lK r.2), .bool true, .bool (sK r.2), .string ⟨#[]⟩], .nilIface]) (by simp [results, Tryz.results64, go_sem, IntWalk.iteOmega, ↓IntWalk.iteOmega]) rfl ⟨rfl, by repeat (first | exact Plus.refl _ | refine Plus.alloc ?_ _ | refine Plus.plus ?_ _ _ | refine Plus.drew ?_ | refine Plus.drewN ?_ _)⟩
set_option maxRecDepth 100000 in
set_option maxHeartbeats 4000000 in
theorem c26 (r : Nat × Nat) (or : okR r) (w : World) : Calls Tryz.prog 26 #[.string (toB (txtK r.1 ++ 45 :: txtK r.2))] w fun e w' => e = .returned (.tuple #[.agg #[.bool (sK r.1), .int .u64 (hK r.1), .int .u64 (mK r.1), .bool (sK r.2), .int .u64 (hK r.2), .int .u64 (mK r.2)], .bool true]) ∧ Plus w w' := by
  have C64 : Hid _ := fun w => c64 r or w
  have oa : okK r.1 := or.a
  have ob : okK r.2 := or.b
  clear or
  go_enter Tryz.func26, Tryz.ntmps26

  go_wp2_with (first | (go_at_call 64; (with_reducible refine (C64.out _).mono ?_); rintro e w' ⟨rfl, dd, oo, rfl⟩))
  refine wp_region_plus_tail 7 (by kernel_rfl) (by kernel_rfl) ?_
  simp only [List.take_succ_cons, List.take_zero, List.drop_succ_cons, List.drop_zero]
  repeat (go_big_quiet_step (first | (go_at_call 32; (with_reducible exact Calls.plus_of (k32 r _))) | (go_at_call 33; (with_reducible exact Calls.plus_of (k33 r _))) | (go_at_call 31; (with_reducible first | exact Calls.plus_of (k31 r.1 oa _) | exact Calls.plus_of (k31 r.2 ob _)))))
  refine wpQuiet_nil ?_
  intro _ hq
  obtain ⟨⟨dq, oq⟩, rfl⟩ := hq
  go_wp2_with fail
  exact bodyPost_ret (v := .tuple #[.agg #[.bool (sK r.1), .int .u64 (hK r.1), .int .u64 (mK r.1), .bool (sK r.2), .int .u64 (hK r.2), .int .u64 (mK r.2)], .bool true]) (by simp [results, Tryz.results26, go_sem, IntWalk.iteOmega, ↓IntWalk.iteOmega]) rfl ⟨rfl, by repeat (first | exact Plus.refl _ | refine Plus.alloc ?_ _ | refine Plus.plus ?_ _ _ | refine Plus.drew ?_ | refine Plus.drewN ?_ _)⟩
end Go.Proofs.YtmoabfpdlbngeaaGreatDoor
end
