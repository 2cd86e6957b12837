/-
  Part of the proofs on the laws of pub-addresssets: joined texts (U12).
-/
import Derived.Test.YtmoabfpdlbngeaaGreatDoorVU9
section
namespace Go.Proofs.YtmoabfpdlbngeaaGreatDoor
open Go.RowKit
set_option maxHeartbeats 400000
set_option linter.unusedVariables false
set_option linter.unusedSimpArgs false
theorem slice118a (B a : Nat) (ha : a ≤ 8) (w : World) : (Instr.sliceAt 118 (.pointer (some ⟨B, 0, none⟩)) none (some (.int .i64 ((a : Nat) : Int))) none).run Tryz.prog w = .ok (.slice (some ⟨B, 0, none⟩) a 8) w := by
  have h1 : (a : Int) ≤ 8 := by omega
  simp [Instr.sliceAt, go_sem, h1]
theorem slice118b (B e : Nat) (he : e ≤ 8) (w : World) : (Instr.sliceAt 118 (.pointer (some ⟨B, 0, none⟩)) (some (.int .i64 ((e : Nat) : Int))) none none).run Tryz.prog w = .ok (.slice (some ⟨B, if e = 8 then 0 else e, none⟩) (8 - e) (8 - e)) w := by
  have h1 : (e : Int) ≤ 8 := by omega
  have h2 : ((8 : Int) - (e : Int)).toNat = 8 - e := by omega
  simp [Instr.sliceAt, go_sem, h1, h2]
  by_cases q : e = 8
  · subst q; simp
  · have q2 : ¬ 8 = e := fun z => q z.symm
    simp [q, q2]
theorem g_row {W : World} {B : Nat} {g : Nat → Nat} (h : W.heap[B]? = some (.cells #[.int .u16 ((g 0 : Nat) : Int), .int .u16 ((g 1 : Nat) : Int), .int .u16 ((g 2 : Nat) : Int), .int .u16 ((g 3 : Nat) : Int), .int .u16 ((g 4 : Nat) : Int), .int .u16 ((g 5 : Nat) : Int), .int .u16 ((g 6 : Nat) : Int), .int .u16 ((g 7 : Nat) : Int)] 118 (0, 0))) (a : Nat) (ha : a ≤ 8) : Rd layH W (.slice (some ⟨B, 0, none⟩) a 8) a g := by
  refine ⟨_, _, rfl, ha, fun hp => ⟨B, 0, rfl, fun i hi j u hu => ?_⟩⟩
  match j, hu with
  | 0, hu =>
    simp only [layH, List.getElem?_cons_zero, Option.some.injEq] at hu
    subst hu
    have := g_cell h i (by omega)
    simpa [layH] using this
  | j + 1, hu => simp [layH] at hu
theorem g_row2 {W : World} {B : Nat} {g : Nat → Nat} (h : W.heap[B]? = some (.cells #[.int .u16 ((g 0 : Nat) : Int), .int .u16 ((g 1 : Nat) : Int), .int .u16 ((g 2 : Nat) : Int), .int .u16 ((g 3 : Nat) : Int), .int .u16 ((g 4 : Nat) : Int), .int .u16 ((g 5 : Nat) : Int), .int .u16 ((g 6 : Nat) : Int), .int .u16 ((g 7 : Nat) : Int)] 118 (0, 0))) (e : Nat) (he : e ≤ 8) : Rd layH W (.slice (some ⟨B, if e = 8 then 0 else e, none⟩) (8 - e) (8 - e)) (8 - e) (fun j => g (e + j)) := by
  refine ⟨_, _, rfl, Nat.le_refl _, fun hp => ⟨B, e, by rw [if_neg (by omega)], fun i hi j u hu => ?_⟩⟩
  match j, hu with
  | 0, hu =>
    simp only [layH, List.getElem?_cons_zero, Option.some.injEq] at hu
    subst hu
    have := g_cell h (e + i) (by omega)
    simpa [layH] using this
  | j + 1, hu => simp [layH] at hu
theorem c69t (v : Value) (m : Nat) (f : Nat → Nat) (hm : m ≤ 8) (hf : ∀ i, f i < 65536) (w : World) (T : Tabs w) (H : Rd layH w v m f) (X : List Nat) (hX : jn [58] ((List.range m).map (fun j => hexB (f j))) = X) : Calls Tryz.prog 69 #[v] w fun e w' => e = .returned (.string (toB X)) ∧ Plus w w' := by
  rw [← hX]
  exact c69 v m f hm hf w T H
set_option maxRecDepth 100000 in
set_option maxHeartbeats 4000000 in
theorem c27s (k : Nat) (o : okK k) (hs : sK k = true) (hp : Pure6 k) (w : World) (T : Tabs w) : Calls Tryz.prog 27 #[.agg #[.bool (sK k), .int .u64 (hK k), .int .u64 (mK k)]] w fun e w' => e = .returned (.string (toB (txt6 (g6 k)))) ∧ Plus w w' := by
  have HT : Hid _ := T
  have HP : Hid (Pure6 k) := hp
  have HS : Hid (sK k = true) := hs
  have z0 : (!(sK k)) = false := by rw [hs]; rfl
  have hst := stR_stB (g6 k) 8 (Nat.le_refl _)
  obtain ⟨a0, ha0⟩ : ∃ a0, (stR (g6 k) 8).1 = a0 := ⟨_, rfl⟩
  obtain ⟨l0, hl0⟩ : ∃ l0, (stR (g6 k) 8).2 = l0 := ⟨_, rfl⟩
  have h68 : ∀ w, Calls Tryz.prog 68 #[.agg #[.int .u16 (((g6 k) 0 : Nat) : Int), .int .u16 (((g6 k) 1 : Nat) : Int), .int .u16 (((g6 k) 2 : Nat) : Int), .int .u16 (((g6 k) 3 : Nat) : Int), .int .u16 (((g6 k) 4 : Nat) : Int), .int .u16 (((g6 k) 5 : Nat) : Int), .int .u16 (((g6 k) 6 : Nat) : Int), .int .u16 (((g6 k) 7 : Nat) : Int)]] w fun e w' => e = .returned (.tuple #[.int .i64 a0, .int .i64 ((l0 : Nat) : Int)]) ∧ Plus w w' := fun w => by rw [← ha0, ← hl0]; exact c68 (g6 k) w
  have H68 : Hid _ := h68
  have HST : Hid _ := hst
  have HA0 : Hid _ := ha0
  have HL0 : Hid _ := hl0
  clear T hp hs h68 hst ha0 hl0
  go_enter Tryz.func27, Tryz.ntmps27

  go_upto_region 5 with (first | (go_at_call 66; (with_reducible refine (c66 k o HS.out HP.out _).mono ?_); rintro e w' ⟨rfl, dd, oo, rfl⟩))
  go_cut [3] from 18 to 19 (fun t3 wx => ∃ B, t3 = .pointer (some ⟨B, 0, none⟩) ∧ Hid (Chg (fun _ => False) w wx ∧ wx.heap[B]? = some (.cells #[.int .u16 (((g6 k) 0 : Nat) : Int), .int .u16 (((g6 k) 1 : Nat) : Int), .int .u16 (((g6 k) 2 : Nat) : Int), .int .u16 (((g6 k) 3 : Nat) : Int), .int .u16 (((g6 k) 4 : Nat) : Int), .int .u16 (((g6 k) 5 : Nat) : Int), .int .u16 (((g6 k) 6 : Nat) : Int), .int .u16 (((g6 k) 7 : Nat) : Int)] 118 (0, 0))))
  case first =>
    go_wp2_with (first | (go_at_call 67; (with_reducible refine (c67 k o HS.out _).mono ?_); rintro e w' ⟨rfl, dd, oo, rfl⟩))
    go_meet
    case rel => exact ⟨_, rfl, by (repeat (with_reducible first | exact Chg.refl _ _ | refine Chg.plus ?_ _ _ | refine Chg.alloc ?_ _ | refine Chg.drew ?_)), blk_new (by simp)⟩
  case rest =>
    obtain ⟨B, rfl, Z⟩ := hcut
    obtain ⟨wk, rfl⟩ : ∃ wk : World, wk = wc := ⟨_, rfl⟩
    have HW : Hid (Chg (fun _ => False) w wk) := Z.out.1
    have HBB : Hid (wk.heap[B]? = some (.cells #[.int .u16 (((g6 k) 0 : Nat) : Int), .int .u16 (((g6 k) 1 : Nat) : Int), .int .u16 (((g6 k) 2 : Nat) : Int), .int .u16 (((g6 k) 3 : Nat) : Int), .int .u16 (((g6 k) 4 : Nat) : Int), .int .u16 (((g6 k) 5 : Nat) : Int), .int .u16 (((g6 k) 6 : Nat) : Int), .int .u16 (((g6 k) 7 : Nat) : Int)] 118 (0, 0))) := Z.out.2
    have HTW : Hid (Tabs wk) := HT.out.chg Z.out.1
    have hBl : B < wk.heap.size := (Array.getElem?_eq_some_iff.1 Z.out.2).1
    have hz := rangeAt_of _ _ _ 118 Z.out.2 0 [.int .u16 (((g6 k) 0 : Nat) : Int), .int .u16 (((g6 k) 1 : Nat) : Int), .int .u16 (((g6 k) 2 : Nat) : Int), .int .u16 (((g6 k) 3 : Nat) : Int), .int .u16 (((g6 k) 4 : Nat) : Int), .int .u16 (((g6 k) 5 : Nat) : Int), .int .u16 (((g6 k) 6 : Nat) : Int), .int .u16 (((g6 k) 7 : Nat) : Int)] (fun j hj => by rw [Nat.zero_add, ← Array.getElem?_toList])
    have cg0 : wk.cell? ⟨B, 0, none⟩ = some (.int .u16 ((g6 k 0 : Nat) : Int)) := hz 0 _ rfl
    have cg1 : wk.cell? ⟨B, 1, none⟩ = some (.int .u16 ((g6 k 1 : Nat) : Int)) := hz 1 _ rfl
    have cg2 : wk.cell? ⟨B, 2, none⟩ = some (.int .u16 ((g6 k 2 : Nat) : Int)) := hz 2 _ rfl
    have cg3 : wk.cell? ⟨B, 3, none⟩ = some (.int .u16 ((g6 k 3 : Nat) : Int)) := hz 3 _ rfl
    have cg4 : wk.cell? ⟨B, 4, none⟩ = some (.int .u16 ((g6 k 4 : Nat) : Int)) := hz 4 _ rfl
    have cg5 : wk.cell? ⟨B, 5, none⟩ = some (.int .u16 ((g6 k 5 : Nat) : Int)) := hz 5 _ rfl
    have cg6 : wk.cell? ⟨B, 6, none⟩ = some (.int .u16 ((g6 k 6 : Nat) : Int)) := hz 6 _ rfl
    have cg7 : wk.cell? ⟨B, 7, none⟩ = some (.int .u16 ((g6 k 7 : Nat) : Int)) := hz 7 _ rfl
    clear Z hz
    by_cases hl : l0 < 2
    · have y1 : decide ((l0 : Int) < 2) = true := decide_eq_true (by omega)
      have jx := jg_jn (g6 k) 0 8
      simp only [Nat.zero_add] at jx
      have jy := jg_jn (g6 k) 8 (8 - 8)
      obtain ⟨X, hX⟩ : ∃ X, jg (g6 k) 0 8 = X := ⟨_, rfl⟩
      obtain ⟨Y, hY⟩ : ∃ Y, jg (g6 k) 8 (8 - 8) = Y := ⟨_, rfl⟩
      have lx := jg_len (g6 k) 0 8
      have ly := jg_len (g6 k) 8 (8 - 8)
      rw [hX] at jx lx
      rw [hY] at jy ly
      have HX : Hid _ := jx.symm
      have HY : Hid _ := jy.symm
      obtain ⟨X2, hX2⟩ : ∃ X2, X ++ [] = X2 := ⟨_, rfl⟩
      obtain ⟨Z, hZ⟩ : ∃ Z, X2 ++ Y = Z := ⟨_, rfl⟩
      have lx2 : X2.length ≤ 100 := by rw [← hX2]; simp; omega
      have q1 : ∀ w, (Op.stringOp .add (toB X) ⟨#[]⟩).run Tryz.prog w = .ok (.string (toB X2)) w := fun w => by rw [← hX2]; exact strT X [] (by omega) (by simp) w
      have q2 : ∀ w, (Op.stringOp .add (toB X2) (toB Y)).run Tryz.prog w = .ok (.string (toB Z)) w := fun w => by rw [← hZ]; exact strT X2 Y (by omega) (by omega) w
      have HZ : Hid (txt6 (g6 k) = Z) := by
        have hsb : stB (g6 k) 8 = (255, 255) := by
          rcases HST.out with ⟨_, q⟩ | ⟨q1, _⟩
          · exact q
          · rw [HL0.out] at q1; omega
        unfold Hid txt6
        rw [hsb, if_neg (by show ¬ 255 < 8; omega), ← hZ, ← hX2, ← hX, ← hY]
        simp [jg]
      clear hX hY hX2 hZ jx jy
      have sa := fun B w => slice118a B 8 (by omega) w
      have sb := fun B w => slice118b B 8 (by omega) w
      simp at sa sb
      obtain ⟨D, hD⟩ : ∃ D, D = 0 := ⟨_, rfl⟩
      have RY : Hid (∀ W : World, W.heap[B]? = some (.cells #[.int .u16 (((g6 k) 0 : Nat) : Int), .int .u16 (((g6 k) 1 : Nat) : Int), .int .u16 (((g6 k) 2 : Nat) : Int), .int .u16 (((g6 k) 3 : Nat) : Int), .int .u16 (((g6 k) 4 : Nat) : Int), .int .u16 (((g6 k) 5 : Nat) : Int), .int .u16 (((g6 k) 6 : Nat) : Int), .int .u16 (((g6 k) 7 : Nat) : Int)] 118 (0, 0)) → Rd layH W (.slice (some ⟨B, 0, none⟩) 0 0) 0 (fun j => g6 k (8 + j))) := fun W h => g_row2 (g := g6 k) h 8 (Nat.le_refl _)
      have HY0 : Hid (jn [58] ((List.range 0).map (fun j => hexB (g6 k (8 + j)))) = Y) := HY.out
      go_wp2_with (first | (go_at_call 68; (with_reducible refine (H68.out _).mono ?_); rintro e w' ⟨rfl, dd, oo, rfl⟩))
      refine wp_region_plus (by kernel_rfl) (by kernel_rfl) ?_
      repeat (go_big_quiet_step (first
        | (go_at_call 69; (with_reducible exact Calls.plus_of (c69t _ 8 (g6 k) (by omega) (g6_lt k) _ (HTW.out.chg (by (repeat (with_reducible first | exact Chg.refl _ _ | refine Chg.plus ?_ _ _ | refine Chg.alloc ?_ _ | refine Chg.drew ?_)))) (g_row (heap_chg (F := fun _ => False) (by (repeat (with_reducible first | exact Chg.refl _ _ | refine Chg.plus ?_ _ _ | refine Chg.alloc ?_ _ | refine Chg.drew ?_))) HBB.out id) 8 (by omega)) X HX.out)))
        | (go_at_call 69; (with_reducible exact Calls.plus_of (c69t _ 0 (fun j => g6 k (8 + j)) (by omega) (fun j => g6_lt k _) _ (HTW.out.chg (by (repeat (with_reducible first | exact Chg.refl _ _ | refine Chg.plus ?_ _ _ | refine Chg.alloc ?_ _ | refine Chg.drew ?_)))) (RY.out _ (heap_chg (F := fun _ => False) (by (repeat (with_reducible first | exact Chg.refl _ _ | refine Chg.plus ?_ _ _ | refine Chg.alloc ?_ _ | refine Chg.drew ?_))) HBB.out id)) Y HY0.out)))
        | (go_at_call 70; (with_reducible exact Calls.plus_of (c70b _)))))
      refine wpQuiet_nil ?_
      intro _ hq
      obtain ⟨⟨dq, oq⟩, rfl⟩ := hq
      have HPL : Hid (Plus w (((wk.plus dd oo).plus dq oq))) := (Chg.trans HW.out (by (repeat (with_reducible first | exact Chg.refl _ _ | refine Chg.plus ?_ _ _ | refine Chg.alloc ?_ _ | refine Chg.drew ?_)))).plus_of (F := fun _ => False) (fun _ _ => id)
      go_wp2_with fail
      go_ret
      exact ⟨by rw [HZ.out]; rfl, HPL.out⟩
    · have y1 : decide ((l0 : Int) < 2) = false := decide_eq_false (by omega)
      have hst : ∃ s : Nat, a0 = (s : Int) ∧ s + l0 ≤ 8 ∧ stB (g6 k) 8 = (s, s + l0) := by
        rcases HST.out with ⟨q, _⟩ | ⟨q1, q2, q3, q4⟩
        · rw [HL0.out] at q; omega
        · refine ⟨(stB (g6 k) 8).1, by rw [← HA0.out, q2], by rw [← HL0.out]; omega, ?_⟩
          rw [← HL0.out, q3]
      obtain ⟨s, rfl, hsl, hsb⟩ := hst
      have HSB : Hid _ := hsb
      clear hsb
      have jx := jg_jn (g6 k) 0 s
      simp only [Nat.zero_add] at jx
      have jy := jg_jn (g6 k) (s + l0) (8 - (s + l0))
      obtain ⟨X, hX⟩ : ∃ X, jg (g6 k) 0 s = X := ⟨_, rfl⟩
      obtain ⟨Y, hY⟩ : ∃ Y, jg (g6 k) (s + l0) (8 - (s + l0)) = Y := ⟨_, rfl⟩
      have lx := jg_len (g6 k) 0 s
      have ly := jg_len (g6 k) (s + l0) (8 - (s + l0))
      rw [hX] at jx lx
      rw [hY] at jy ly
      have HX : Hid _ := jx.symm
      have HY : Hid _ := jy.symm
      obtain ⟨X2, hX2⟩ : ∃ X2, X ++ [58, 58] = X2 := ⟨_, rfl⟩
      obtain ⟨Z, hZ⟩ : ∃ Z, X2 ++ Y = Z := ⟨_, rfl⟩
      have lx2 : X2.length ≤ 100 := by rw [← hX2]; simp; omega
      have q1 : ∀ w, (Op.stringOp .add (toB X) ⟨#[58, 58]⟩).run Tryz.prog w = .ok (.string (toB X2)) w := fun w => by rw [← hX2]; exact strT X [58, 58] (by omega) (by simp) w
      have q2 : ∀ w, (Op.stringOp .add (toB X2) (toB Y)).run Tryz.prog w = .ok (.string (toB Z)) w := fun w => by rw [← hZ]; exact strT X2 Y (by omega) (by omega) w
      have HZ : Hid (txt6 (g6 k) = Z) := by
        unfold Hid txt6
        rw [HSB.out, if_pos (by show s < 8; omega), ← hZ, ← hX2, ← hX, ← hY]
      clear hX hY hX2 hZ jx jy ly
      have sa := fun B w => slice118a B s (by omega) w
      obtain ⟨E, hE⟩ : ∃ E, (if s + l0 = 8 then 0 else s + l0) = E := ⟨_, rfl⟩
      obtain ⟨D, hD⟩ : ∃ D, 8 - (s + l0) = D := ⟨_, rfl⟩
      have RY : Hid (∀ W : World, W.heap[B]? = some (.cells #[.int .u16 (((g6 k) 0 : Nat) : Int), .int .u16 (((g6 k) 1 : Nat) : Int), .int .u16 (((g6 k) 2 : Nat) : Int), .int .u16 (((g6 k) 3 : Nat) : Int), .int .u16 (((g6 k) 4 : Nat) : Int), .int .u16 (((g6 k) 5 : Nat) : Int), .int .u16 (((g6 k) 6 : Nat) : Int), .int .u16 (((g6 k) 7 : Nat) : Int)] 118 (0, 0)) → Rd layH W (.slice (some ⟨B, E, none⟩) D D) D (fun j => g6 k (s + l0 + j))) := fun W h => by
        have := g_row2 (g := g6 k) h (s + l0) hsl
        rwa [hE, hD] at this
      have sb : ∀ B w, (Instr.sliceAt 118 (.pointer (some ⟨B, 0, none⟩)) (some (.int .i64 ((s : Int) + (l0 : Int)))) none none).run Tryz.prog w = .ok (.slice (some ⟨B, E, none⟩) D D) w := fun B w => by
        have := slice118b B (s + l0) hsl w
        rwa [hE, hD, Int.natCast_add] at this
      have hD8 : D ≤ 8 := by omega
      rw [hD] at HY
      clear hE hD
      have m1 : min (s : Int) 8 = (s : Int) := by omega
      have m2 : min ((s : Int) + (l0 : Int)) 8 = ((s + l0 : Nat) : Int) := by omega
      go_wp2_with (first | (go_at_call 68; (with_reducible refine (H68.out _).mono ?_); rintro e w' ⟨rfl, dd, oo, rfl⟩))
      refine wp_region_plus (by kernel_rfl) (by kernel_rfl) ?_
      repeat (go_big_quiet_step (first
        | (go_at_call 69; (with_reducible exact Calls.plus_of (c69t _ s (g6 k) (by omega) (g6_lt k) _ (HTW.out.chg (by (repeat (with_reducible first | exact Chg.refl _ _ | refine Chg.plus ?_ _ _ | refine Chg.alloc ?_ _ | refine Chg.drew ?_)))) (g_row (heap_chg (F := fun _ => False) (by (repeat (with_reducible first | exact Chg.refl _ _ | refine Chg.plus ?_ _ _ | refine Chg.alloc ?_ _ | refine Chg.drew ?_))) HBB.out id) s (by omega)) X HX.out)))
        | (go_at_call 69; (with_reducible exact Calls.plus_of (c69t _ D (fun j => g6 k ((s + l0) + j)) hD8 (fun j => g6_lt k _) _ (HTW.out.chg (by (repeat (with_reducible first | exact Chg.refl _ _ | refine Chg.plus ?_ _ _ | refine Chg.alloc ?_ _ | refine Chg.drew ?_)))) (RY.out _ (heap_chg (F := fun _ => False) (by (repeat (with_reducible first | exact Chg.refl _ _ | refine Chg.plus ?_ _ _ | refine Chg.alloc ?_ _ | refine Chg.drew ?_))) HBB.out id)) Y HY.out)))
        | (go_at_call 70; (with_reducible exact Calls.plus_of (c70a s (by omega) _)))))
      refine wpQuiet_nil ?_
      intro _ hq
      obtain ⟨⟨dq, oq⟩, rfl⟩ := hq
      have HPL : Hid (Plus w (((wk.plus dd oo).plus dq oq))) := (Chg.trans HW.out (by (repeat (with_reducible first | exact Chg.refl _ _ | refine Chg.plus ?_ _ _ | refine Chg.alloc ?_ _ | refine Chg.drew ?_)))).plus_of (F := fun _ => False) (fun _ _ => id)
      go_wp2_with fail
      go_ret
      exact ⟨by rw [HZ.out]; rfl, HPL.out⟩
set_option maxHeartbeats 2000000 in
/-- spec.Text. -/
theorem c27 (k : Nat) (o : okK k) (hp : Pure6 k) (w : World) (T : Tabs w) : Calls Tryz.prog 27 #[.agg #[.bool (sK k), .int .u64 (hK k), .int .u64 (mK k)]] w fun e w' => e = .returned (.string (toB (txtK k))) ∧ Plus w w' := by
  cases hs : sK k
  · have HS : Hid (sK k = false) := hs
    have HT : Hid _ := T
    have z0 : (!(sK k)) = true := by rw [hs]; rfl
    have HX : Hid (txtK k = txt4 k) := by unfold Hid txtK; rw [hs]; rfl
    rw [← hs]
    clear T hs
    go_enter Tryz.func27, Tryz.ntmps27

    go_wp2_with (first | (go_at_call 65; (with_reducible refine (c65 k o HS.out _ (HT.out.chg (by (repeat (with_reducible first | exact Chg.refl _ _ | refine Chg.plus ?_ _ _ | refine Chg.alloc ?_ _ | refine Chg.drew ?_))))).mono ?_); rintro e w' ⟨rfl, dd, oo, rfl⟩))
    go_ret
    exact ⟨by rw [HX.out]; rfl, by repeat (first | exact Plus.refl _ | refine Plus.alloc ?_ _ | refine Plus.plus ?_ _ _ | refine Plus.drew ?_ | refine Plus.drewN ?_ _)⟩
  · have z := c27s k o hs hp w T
    rw [hs] at z
    have HX : txtK k = txt6 (g6 k) := by unfold txtK; rw [hs]; rfl
    rw [HX]
    exact z
end Go.Proofs.YtmoabfpdlbngeaaGreatDoor
end
