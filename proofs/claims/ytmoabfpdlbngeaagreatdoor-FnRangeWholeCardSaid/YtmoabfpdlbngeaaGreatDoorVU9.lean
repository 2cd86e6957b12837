/-
  Part of the proofs on the laws of pub-addresssets: joined texts (U9, U10, U11).
-/
import Derived.Test.YtmoabfpdlbngeaaGreatDoorVU7
import Derived.LoopN
section
namespace Go.Proofs.YtmoabfpdlbngeaaGreatDoor
open Go.RowKit
set_option maxHeartbeats 400000
set_option linter.unusedVariables false
set_option linter.unusedSimpArgs false
theorem mK_six (k : Nat) (hs : sK k = true) : mK k = ((lN k : Nat) : Int) := by
  have h : 8589934592 ≤ k := of_decide_eq_true hs
  unfold mK lN
  rw [if_pos h, if_pos h]
theorem c66 (k : Nat) (o : okK k) (hs : sK k = true) (hp : Pure6 k) (w : World) : Calls Tryz.prog 66 #[.agg #[.bool (sK k), .int .u64 (hK k), .int .u64 (mK k)]] w fun e w' => e = .returned (.bool false) ∧ Plus w w' := by
  have h := hp hs
  rw [hK_N, mK_six k hs, hs]
  generalize hN k = H at *
  generalize lN k = L at *
  clear hp o hs
  by_cases h0 : H = 0
  · subst h0
    have h1 : ((L : Int) / 4294967296 == 65535) = false := by rw [beq_eq_false_iff_ne]; omega
    go_enter Tryz.func66, Tryz.ntmps66

    go_wp2_with fail
    go_ret
    exact ⟨by simp, by repeat (first | exact Plus.refl _ | refine Plus.alloc ?_ _ | refine Plus.plus ?_ _ _ | refine Plus.drew ?_ | refine Plus.drewN ?_ _)⟩
  · have h1 : ((H : Int) == 0) = false := by rw [beq_eq_false_iff_ne]; omega
    go_enter Tryz.func66, Tryz.ntmps66

    go_wp2_with fail
    go_ret
    exact ⟨by simp, by repeat (first | exact Plus.refl _ | refine Plus.alloc ?_ _ | refine Plus.plus ?_ _ _ | refine Plus.drew ?_ | refine Plus.drewN ?_ _)⟩
theorem c70a (i : Nat) (hi : i < 8) (w : World) : Calls Tryz.prog 70 #[.int .i64 ((i : Nat) : Int)] w fun e w' => e = .returned (.string ⟨#[58, 58]⟩) ∧ Plus w w' := by
  have h1 : decide ((i : Int) < 8) = true := decide_eq_true (by omega)
  go_enter Tryz.func70, Tryz.ntmps70

  go_wp2_with fail
  go_ret
  exact ⟨rfl, by repeat (first | exact Plus.refl _ | refine Plus.alloc ?_ _ | refine Plus.plus ?_ _ _ | refine Plus.drew ?_ | refine Plus.drewN ?_ _)⟩
theorem c70b (w : World) : Calls Tryz.prog 70 #[.int .i64 8] w fun e w' => e = .returned (.string ⟨#[]⟩) ∧ Plus w w' := by
  go_enter Tryz.func70, Tryz.ntmps70

  go_wp2_with fail
  go_ret
  exact ⟨rfl, by repeat (first | exact Plus.refl _ | refine Plus.alloc ?_ _ | refine Plus.plus ?_ _ _ | refine Plus.drew ?_ | refine Plus.drewN ?_ _)⟩
set_option maxRecDepth 100000 in
set_option maxHeartbeats 4000000 in
theorem c67 (k : Nat) (o : okK k) (hs : sK k = true) (w : World) : Calls Tryz.prog 67 #[.agg #[.bool (sK k), .int .u64 (hK k), .int .u64 (mK k)]] w fun e w' => e = .returned (.agg #[.int .u16 (((g6 k) 0 : Nat) : Int), .int .u16 (((g6 k) 1 : Nat) : Int), .int .u16 (((g6 k) 2 : Nat) : Int), .int .u16 (((g6 k) 3 : Nat) : Int), .int .u16 (((g6 k) 4 : Nat) : Int), .int .u16 (((g6 k) 5 : Nat) : Int), .int .u16 (((g6 k) 6 : Nat) : Int), .int .u16 (((g6 k) 7 : Nat) : Int)]) ∧ Plus w w' := by
  have h1 := hN_lt k o
  have h2 := lN_lt k o
  rw [hK_N, mK_six k hs]
  unfold g6
  generalize hN k = H at *
  generalize lN k = L at *
  generalize sK k = s
  clear o
  go_enter Tryz.func67, Tryz.ntmps67

  go_wp2_with fail
  refine wp_loop_rounds 5 ?_
  rw [rounds_succ]
  go_wp2_with fail
  rw [rounds_succ]
  go_wp2_with fail
  rw [rounds_succ]
  go_wp2_with fail
  rw [rounds_succ]
  go_wp2_with fail
  rw [rounds_succ]
  go_wp2_with fail
  have w0 : (H : Int) / 281474976710656 % 65536 = (H : Int) / 281474976710656 := by omega
  have w4 : (L : Int) / 281474976710656 % 65536 = (L : Int) / 281474976710656 := by omega
  refine bodyPost_ret (v := .agg #[.int .u16 ((H : Int) / 281474976710656), .int .u16 (IntKind.u16.wrap ((H : Int) / 4294967296)), .int .u16 (IntKind.u16.wrap ((H : Int) / 65536)), .int .u16 (IntKind.u16.wrap (H : Int)), .int .u16 ((L : Int) / 281474976710656), .int .u16 (IntKind.u16.wrap ((L : Int) / 4294967296)), .int .u16 (IntKind.u16.wrap ((L : Int) / 65536)), .int .u16 (IntKind.u16.wrap (L : Int))]) (by simp [results, Tryz.results67, go_sem, IntWalk.iteOmega, ↓IntWalk.iteOmega]) rfl ⟨?_, by repeat (first | exact Plus.refl _ | refine Plus.alloc ?_ _ | refine Plus.plus ?_ _ _ | refine Plus.drew ?_ | refine Plus.drewN ?_ _)⟩
  simp only [wrapU16, w0, w4]
end Go.Proofs.YtmoabfpdlbngeaaGreatDoor
end

section
namespace Go.Proofs.YtmoabfpdlbngeaaGreatDoor
open Go.RowKit
set_option maxHeartbeats 400000
set_option linter.unusedVariables false
set_option linter.unusedSimpArgs false
/-- The longest run of zeros so far, as spec.run keeps it. -/
def stR (g : Nat → Nat) : Nat → Int × Nat
  | 0 => (-1, 0)
  | i + 1 => if (stR g i).2 < zend g i - i then ((i : Nat), zend g i - i) else stR g i
theorem stR_stB (g : Nat → Nat) : ∀ i, i ≤ 8 → ((stR g i).2 < 2 ∧ stB g i = (255, 255)) ∨ (2 ≤ (stR g i).2 ∧ (stR g i).1 = (((stB g i).1 : Nat) : Int) ∧ (stB g i).1 + (stR g i).2 = (stB g i).2 ∧ (stB g i).2 ≤ 8)
  | 0, _ => .inl ⟨by show 0 < 2; omega, rfl⟩
  | i + 1, h => by
    have ih := stR_stB g i (by omega)
    have hz := zend_le g i (by omega)
    unfold stR stB
    rcases ih with ⟨a, b⟩ | ⟨a, b, c, d⟩
    · rw [b]
      by_cases h1 : (stR g i).2 < zend g i - i
      · rw [if_pos h1]
        by_cases h2 : 2 ≤ zend g i - i
        · rw [if_pos ⟨h2, by show 255 - 255 < _; omega⟩]
          exact .inr ⟨h2, rfl, by show i + (zend g i - i) = zend g i; omega, hz.2⟩
        · rw [if_neg (fun q => h2 q.1)]
          exact .inl ⟨by show zend g i - i < 2; omega, rfl⟩
      · rw [if_neg h1, if_neg (fun q => by have := q.1; omega)]
        exact .inl ⟨a, rfl⟩
    · by_cases h1 : (stR g i).2 < zend g i - i
      · rw [if_pos h1, if_pos ⟨by omega, by omega⟩]
        exact .inr ⟨by show 2 ≤ zend g i - i; omega, rfl, by show i + (zend g i - i) = zend g i; omega, hz.2⟩
      · rw [if_neg h1, if_neg (fun q => by have := q.2; omega)]
        exact .inr ⟨a, b, c, d⟩
theorem g_cell {W : World} {B : Nat} {g : Nat → Nat} (h : W.heap[B]? = some (.cells #[.int .u16 ((g 0 : Nat) : Int), .int .u16 ((g 1 : Nat) : Int), .int .u16 ((g 2 : Nat) : Int), .int .u16 ((g 3 : Nat) : Int), .int .u16 ((g 4 : Nat) : Int), .int .u16 ((g 5 : Nat) : Int), .int .u16 ((g 6 : Nat) : Int), .int .u16 ((g 7 : Nat) : Int)] 118 (0, 0))) (i : Nat) (hi : i < 8) : W.cell? ⟨B, i, none⟩ = some (.int .u16 ((g i : Nat) : Int)) := by
  have hz := rangeAt_of _ _ _ 118 h 0 [.int .u16 ((g 0 : Nat) : Int), .int .u16 ((g 1 : Nat) : Int), .int .u16 ((g 2 : Nat) : Int), .int .u16 ((g 3 : Nat) : Int), .int .u16 ((g 4 : Nat) : Int), .int .u16 ((g 5 : Nat) : Int), .int .u16 ((g 6 : Nat) : Int), .int .u16 ((g 7 : Nat) : Int)] (fun j hj => by rw [Nat.zero_add, ← Array.getElem?_toList])
  have := hz i (.int .u16 ((g i : Nat) : Int)) (by match i, hi with | 0, _ => rfl | 1, _ => rfl | 2, _ => rfl | 3, _ => rfl | 4, _ => rfl | 5, _ => rfl | 6, _ => rfl | 7, _ => rfl)
  rwa [Nat.zero_add] at this
set_option maxRecDepth 100000 in
set_option maxHeartbeats 4000000 in
theorem c68 (g : Nat → Nat) (w : World) : Calls Tryz.prog 68 #[.agg #[.int .u16 ((g 0 : Nat) : Int), .int .u16 ((g 1 : Nat) : Int), .int .u16 ((g 2 : Nat) : Int), .int .u16 ((g 3 : Nat) : Int), .int .u16 ((g 4 : Nat) : Int), .int .u16 ((g 5 : Nat) : Int), .int .u16 ((g 6 : Nat) : Int), .int .u16 ((g 7 : Nat) : Int)]] w fun e w' => e = .returned (.tuple #[.int .i64 (stR g 8).1, .int .i64 (((stR g 8).2 : Nat) : Int)]) ∧ Plus w w' := by
  have BY : Hid (∀ w', Chg (fun _ => False) (w.alloc (.cells #[.int .u16 ((g 0 : Nat) : Int), .int .u16 ((g 1 : Nat) : Int), .int .u16 ((g 2 : Nat) : Int), .int .u16 ((g 3 : Nat) : Int), .int .u16 ((g 4 : Nat) : Int), .int .u16 ((g 5 : Nat) : Int), .int .u16 ((g 6 : Nat) : Int), .int .u16 ((g 7 : Nat) : Int)] 118)) w' → w'.heap[w.heap.size]? = some (.cells #[.int .u16 ((g 0 : Nat) : Int), .int .u16 ((g 1 : Nat) : Int), .int .u16 ((g 2 : Nat) : Int), .int .u16 ((g 3 : Nat) : Int), .int .u16 ((g 4 : Nat) : Int), .int .u16 ((g 5 : Nat) : Int), .int .u16 ((g 6 : Nat) : Int), .int .u16 ((g 7 : Nat) : Int)] 118 (0, 0))) := fun w' C => heap_chg C (blk_new rfl) id
  go_enter Tryz.func68, Tryz.ntmps68

  go_wp2_with fail
  go_loopw [4, 5, 8] (fun t4 t5 t8 wr => ∃ i : Nat, t8 = .int .i64 ((i : Nat) : Int) ∧ t4 = .int .i64 (stR g i).1 ∧ t5 = .int .i64 (((stR g i).2 : Nat) : Int) ∧ i ≤ 8 ∧ Hid (Chg (fun _ => False) (w.alloc (.cells #[.int .u16 ((g 0 : Nat) : Int), .int .u16 ((g 1 : Nat) : Int), .int .u16 ((g 2 : Nat) : Int), .int .u16 ((g 3 : Nat) : Int), .int .u16 ((g 4 : Nat) : Int), .int .u16 ((g 5 : Nat) : Int), .int .u16 ((g 6 : Nat) : Int), .int .u16 ((g 7 : Nat) : Int)] 118)) wr))
    (fun _ _ t8 _ => 8 - (intOf t8).toNat)
  case atStart => exact ⟨0, rfl, rfl, rfl, Nat.zero_le _, Chg.refl _ _⟩
  case round =>
    obtain ⟨i, rfl, rfl, rfl, hi, X⟩ := hrel
    obtain ⟨W0, rfl⟩ : ∃ x, x = wr := ⟨_, rfl⟩
    by_cases hlt : i < 8
    · obtain ⟨a, ha⟩ : ∃ a, (stR g i).1 = a := ⟨_, rfl⟩
      obtain ⟨m, hm⟩ : ∃ m, (stR g i).2 = m := ⟨_, rfl⟩
      have HAM : Hid (stR g i = (a, m)) := by unfold Hid; rw [← ha, ← hm]
      rw [ha, hm]
      have zi8 : decide ((i : Int) < 8) = true := decide_eq_true (by omega)
      clear ha hm
      go_wp2_with fail
      go_loopw [7] (fun t7 wx => ∃ n : Nat, t7 = .int .i64 ((n : Nat) : Int) ∧ i + n ≤ 8 ∧ Hid (Chg (fun _ => False) (w.alloc (.cells #[.int .u16 ((g 0 : Nat) : Int), .int .u16 ((g 1 : Nat) : Int), .int .u16 ((g 2 : Nat) : Int), .int .u16 ((g 3 : Nat) : Int), .int .u16 ((g 4 : Nat) : Int), .int .u16 ((g 5 : Nat) : Int), .int .u16 ((g 6 : Nat) : Int), .int .u16 ((g 7 : Nat) : Int)] 118)) wx ∧ ∀ q, i ≤ q → q < i + n → g q = 0))
        (fun t7 _ => 8 - (intOf t7).toNat)
      case atStart => exact ⟨0, rfl, by omega, X.out, fun q h1 h2 => by omega⟩
      case round =>
        obtain ⟨n, rfl, hn, Y⟩ := hrel
        obtain ⟨W1, rfl⟩ : ∃ x, x = wr := ⟨_, rfl⟩
        have hb := BY.out _ Y.out.1
        have hBl : w.heap.size < W1.heap.size := (Array.getElem?_eq_some_iff.1 hb).1
        have fin : (i + n = 8 ∨ g (i + n) ≠ 0) → i + n = zend g i := fun q => zend_uniq g i (i + n) hi (by omega) hn Y.out.2 q
        by_cases hj8 : i + n < 8
        · have cq := g_cell hb (i + n) hj8
          have y0 : decide ((i : Int) + (n : Int) < 8) = true := decide_eq_true (by omega)
          clear hb
          by_cases hg : g (i + n) = 0
          · have hg1 : (((g (i + n) : Nat) : Int) == 0) = true := by rw [hg]; rfl
            have HG : Hid _ := hg
            clear fin hg
            go_wp2_with fail
            go_roundw
            case rel => exact ⟨n + 1, by go_num, by omega, Y.out.1.trans (by (repeat (with_reducible first | exact Chg.refl _ _ | refine Chg.plus ?_ _ _ | refine Chg.alloc ?_ _ | refine Chg.drew ?_))), fun q h1 h2 => by
              by_cases e : q = i + n
              · rw [e]; exact HG.out
              · exact Y.out.2 q h1 (by omega)⟩
            case measure => simp [intOf]; omega
          · have hg1 : (((g (i + n) : Nat) : Int) == 0) = false := by rw [beq_eq_false_iff_ne]; omega
            have hz := fin (.inr hg)
            clear fin hg
            by_cases c1 : m < n
            · have y1 : decide ((m : Int) < (n : Int)) = true := decide_eq_true (by omega)
              have HST : Hid (stR g (i + 1) = (((i : Nat) : Int), n)) := by
                show (if _ then _ else _) = _
                rw [← hz, HAM.out, if_pos (by show m < i + n - i; omega), Nat.add_sub_cancel_left]
              clear hz
              go_wp2_with fail
              go_roundw
              case rel => exact ⟨i + 1, by go_num, by rw [HST.out], by rw [HST.out], by omega, Hid.mk' (Y.out.1.trans (by (repeat (with_reducible first | exact Chg.refl _ _ | refine Chg.plus ?_ _ _ | refine Chg.alloc ?_ _ | refine Chg.drew ?_))))⟩
              case measure => simp [intOf]; omega
            · have y1 : decide ((m : Int) < (n : Int)) = false := decide_eq_false (by omega)
              have HST : Hid (stR g (i + 1) = (a, m)) := by
                show (if _ then _ else _) = _
                rw [← hz, HAM.out, if_neg (by show ¬ m < i + n - i; omega)]
              clear hz
              go_wp2_with fail
              go_roundw
              case rel => exact ⟨i + 1, by go_num, by rw [HST.out], by rw [HST.out], by omega, Hid.mk' (Y.out.1.trans (by (repeat (with_reducible first | exact Chg.refl _ _ | refine Chg.plus ?_ _ _ | refine Chg.alloc ?_ _ | refine Chg.drew ?_))))⟩
              case measure => simp [intOf]; omega
        · have hz := fin (.inl (by omega))
          have y0 : decide ((i : Int) + (n : Int) < 8) = false := decide_eq_false (by omega)
          clear fin hb
          by_cases c1 : m < n
          · have y1 : decide ((m : Int) < (n : Int)) = true := decide_eq_true (by omega)
            have HST : Hid (stR g (i + 1) = (((i : Nat) : Int), n)) := by
              show (if _ then _ else _) = _
              rw [← hz, HAM.out, if_pos (by show m < i + n - i; omega), Nat.add_sub_cancel_left]
            clear hz
            go_wp2_with fail
            go_roundw
            case rel => exact ⟨i + 1, by go_num, by rw [HST.out], by rw [HST.out], by omega, Hid.mk' (Y.out.1.trans (by (repeat (with_reducible first | exact Chg.refl _ _ | refine Chg.plus ?_ _ _ | refine Chg.alloc ?_ _ | refine Chg.drew ?_))))⟩
            case measure => simp [intOf]; omega
          · have y1 : decide ((m : Int) < (n : Int)) = false := decide_eq_false (by omega)
            have HST : Hid (stR g (i + 1) = (a, m)) := by
              show (if _ then _ else _) = _
              rw [← hz, HAM.out, if_neg (by show ¬ m < i + n - i; omega)]
            clear hz
            go_wp2_with fail
            go_roundw
            case rel => exact ⟨i + 1, by go_num, by rw [HST.out], by rw [HST.out], by omega, Hid.mk' (Y.out.1.trans (by (repeat (with_reducible first | exact Chg.refl _ _ | refine Chg.plus ?_ _ _ | refine Chg.alloc ?_ _ | refine Chg.drew ?_))))⟩
            case measure => simp [intOf]; omega
    · obtain rfl : i = 8 := by omega
      have HP : Hid (Plus w W0) := (Chg.trans (by (repeat (with_reducible first | exact Chg.refl _ _ | refine Chg.plus ?_ _ _ | refine Chg.alloc ?_ _ | refine Chg.drew ?_))) X.out).plus_of (fun _ _ => id)
      clear X
      go_wp2_with fail
      go_ret2
      exact ⟨rfl, HP.out⟩
end Go.Proofs.YtmoabfpdlbngeaaGreatDoor
end

section
namespace Go.Proofs.YtmoabfpdlbngeaaGreatDoor
open Go.RowKit
set_option maxHeartbeats 400000
set_option linter.unusedVariables false
set_option linter.unusedSimpArgs false
/-- Rows of 16-bit numbers. -/
def layH : Lay Nat := ⟨fun b => [.int .u16 ((b : Nat) : Int)], 1, fun _ => rfl, fun a u hu => by
  simp only [List.mem_cons, List.not_mem_nil, or_false] at hu
  subst hu; simp [Value.oneCell'], by omega⟩
theorem jn_snoc (sep : List Nat) (y : List Nat) : ∀ xs : List (List Nat), jn sep (xs ++ [y]) = if xs = [] then y else jn sep xs ++ sep ++ y
  | [] => rfl
  | [x] => by simp [jn]
  | x :: z :: r => by
    have ih := jn_snoc sep y (z :: r)
    rw [if_neg (by simp)] at ih ⊢
    rw [List.cons_append, List.cons_append, jn, ← List.cons_append, ih, jn]
    simp only [List.append_assoc]
theorem jg_jn (g : Nat → Nat) (a : Nat) : ∀ n, jg g a n = jn [58] ((List.range n).map (fun j => hexB (g (a + j))))
  | 0 => rfl
  | n + 1 => by
    rw [List.range_succ, List.map_append, List.map_cons, List.map_nil, jn_snoc, jg, jg_jn g a n]
    by_cases h : n = 0
    · subst h; simp
    · rw [if_neg h, if_neg (by simp; exact h)]
set_option maxRecDepth 100000 in
set_option maxHeartbeats 4000000 in
theorem c69 (v : Value) (m : Nat) (f : Nat → Nat) (hm : m ≤ 8) (hf : ∀ i, f i < 65536) (w : World) (T : Tabs w) (H : Rd layH w v m f) : Calls Tryz.prog 69 #[v] w fun e w' => e = .returned (.string (toB (jn [58] ((List.range m).map (fun j => hexB (f j)))))) ∧ Plus w w' := by
  obtain ⟨p, c, rfl, hmc, hr⟩ := H
  have HK : Hid _ := hr
  have HT : Hid _ := T
  clear hr T
  go_enter Tryz.func69, Tryz.ntmps69

  go_wp2_with fail
  go_loopw [3, 8] (fun t3 t8 wr => ∃ (i : Nat) (p1 : Option Addr) (n1 c1 : Nat), t8 = .int .i64 ((i : Nat) : Int) ∧ t3 = .slice p1 n1 c1 ∧ i ≤ m ∧ Hid (StR w wr (.slice p1 n1 c1) i (fun j => hexB (f j))))
    (fun _ t8 _ => m - (intOf t8).toNat)
  case atStart => exact ⟨0, none, 0, 0, rfl, rfl, Nat.zero_le _, StR.nil _ _⟩
  case round =>
    obtain ⟨i, p1, n1, c1, rfl, rfl, hi, Y⟩ := hrel
    obtain ⟨W1, rfl⟩ : ∃ x, x = wr := ⟨_, rfl⟩
    by_cases hlt : i < m
    · obtain ⟨G, o, rfl, hrow⟩ := HK.out (by omega)
      have ra : W1.rangeAt G (o + i * 1) [.int .u16 ((f i : Nat) : Int)] := rangeAt_chg Y.out.chg (hrow i hlt) id
      have ca : W1.cell? ⟨G, o + i * 1, none⟩ = some (.int .u16 ((f i : Nat) : Int)) := ra 0 _ rfl
      rw [Nat.mul_one] at ca
      have hG : G < W1.heap.size := World.block_lt_of_cell? _ _ ca
      obtain ⟨x, hx⟩ : ∃ x, f i = x := ⟨_, rfl⟩
      have HX : Hid _ := hx
      have hx2 : x < 65536 := by rw [← hx]; exact hf i
      have HTW : Hid (Tabs W1) := HT.out.chg Y.out.chg
      rw [hx] at ca
      clear ra hrow hx
      have HB : Hid (hexB x = (fun j => hexB (f j)) i) := by unfold Hid; rw [← HX.out]
      go_wp2_with (first | (at_builtin; refine appS rfl (.tmp 12) (.tmp 16) rfl _ _ _ rfl (Y.out.step (by (repeat (with_reducible first | exact Chg.refl _ _ | refine Chg.plus ?_ _ _ | refine Chg.alloc ?_ _ | refine Chg.drew ?_)))) _ (Rd.newTAt _ _ _ (by simp)) HB.out (by omega) ?_; intro p3 n3 c3 w3 H1) | (go_at_call 119; (with_reducible refine (c119 x hx2 _ (HTW.out.chg (by (repeat (with_reducible first | exact Chg.refl _ _ | refine Chg.plus ?_ _ _ | refine Chg.alloc ?_ _ | refine Chg.drew ?_))))).mono ?_); rintro e w' ⟨rfl, dd, oo, rfl⟩))
      go_roundw
      case rel => exact ⟨i + 1, p3, n3, c3, by go_num, rfl, by omega, H1⟩
      case measure => simp [intOf]; omega
    · obtain rfl : i = m := by omega
      have HQ : Hid (OwnDV layT 9 W1 (.slice p1 n1 c1) ((List.range i).map (fun j => hexB (f j))).length (fun q => ((List.range i).map (fun j => hexB (f j))).getD q [])) := by
        unfold Hid
        rw [List.length_map, List.length_range]
        exact OwnDV.congr Y.out.own (fun j hj => by simp [List.getD_eq_getElem?_getD, hj])
      have HPL : Hid (Plus w W1) := Y.out.chg.plus_of (fun _ _ => id)
      go_wp2_with fail
      refine (k118 _ (by simp; omega) (fun x hx => ?_) [58] (by simp) _ _ HQ.out).mono ?_
      · simp at hx
        obtain ⟨j, _, rfl⟩ := hx
        have := hexB_len (f j)
        omega
      rintro e w' ⟨rfl, Z⟩
      have HZ : Hid (Plus w w') := HPL.out.trans Z
      clear Z
      go_wp2_with fail
      go_ret
      exact ⟨rfl, HZ.out⟩
end Go.Proofs.YtmoabfpdlbngeaaGreatDoor
end
