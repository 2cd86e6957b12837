/-
  Part of the proofs on the laws of pub-addresssets: joined texts (U21).
-/
import Derived.Test.YtmoabfpdlbngeaaGreatDoorVU18
section
namespace Go.Proofs.YtmoabfpdlbngeaaGreatDoor
open Go.RowKit
set_option maxHeartbeats 400000
set_option linter.unusedVariables false
set_option linter.unusedSimpArgs false
def sl (a : Act) (i : Nat) : Value := (a.tmps.toList[i]?).getD undef
/-- A frame of n slots with nothing deferred. -/
structure Fr (n : Nat) (a : Act) : Prop where
  size : a.tmps.toList.length = n
  defs : a.defers = []
theorem list_fn (l : List Value) (n : Nat) (h : l.length = n) : l = (List.range n).map (fun i => (l[i]?).getD undef) := by
  apply List.ext_getElem?
  intro i
  by_cases hi : i < n
  · rw [List.getElem?_map, List.getElem?_range hi, List.getElem?_eq_getElem (by omega)]
    simp [List.getElem?_eq_getElem (show i < l.length by omega)]
  · rw [List.getElem?_eq_none (by omega), List.getElem?_eq_none (by simp; omega)]
set_option maxRecDepth 100000 in
theorem range280 (f : Nat → Value) : (List.range 280).map f = [f 0, f 1, f 2, f 3, f 4, f 5, f 6, f 7, f 8, f 9, f 10, f 11, f 12, f 13, f 14, f 15, f 16, f 17, f 18, f 19, f 20, f 21, f 22, f 23, f 24, f 25, f 26, f 27, f 28, f 29, f 30, f 31, f 32, f 33, f 34, f 35, f 36, f 37, f 38, f 39, f 40, f 41, f 42, f 43, f 44, f 45, f 46, f 47, f 48, f 49, f 50, f 51, f 52, f 53, f 54, f 55, f 56, f 57, f 58, f 59, f 60, f 61, f 62, f 63, f 64, f 65, f 66, f 67, f 68, f 69, f 70, f 71, f 72, f 73, f 74, f 75, f 76, f 77, f 78, f 79, f 80, f 81, f 82, f 83, f 84, f 85, f 86, f 87, f 88, f 89, f 90, f 91, f 92, f 93, f 94, f 95, f 96, f 97, f 98, f 99, f 100, f 101, f 102, f 103, f 104, f 105, f 106, f 107, f 108, f 109, f 110, f 111, f 112, f 113, f 114, f 115, f 116, f 117, f 118, f 119, f 120, f 121, f 122, f 123, f 124, f 125, f 126, f 127, f 128, f 129, f 130, f 131, f 132, f 133, f 134, f 135, f 136, f 137, f 138, f 139, f 140, f 141, f 142, f 143, f 144, f 145, f 146, f 147, f 148, f 149, f 150, f 151, f 152, f 153, f 154, f 155, f 156, f 157, f 158, f 159, f 160, f 161, f 162, f 163, f 164, f 165, f 166, f 167, f 168, f 169, f 170, f 171, f 172, f 173, f 174, f 175, f 176, f 177, f 178, f 179, f 180, f 181, f 182, f 183, f 184, f 185, f 186, f 187, f 188, f 189, f 190, f 191, f 192, f 193, f 194, f 195, f 196, f 197, f 198, f 199, f 200, f 201, f 202, f 203, f 204, f 205, f 206, f 207, f 208, f 209, f 210, f 211, f 212, f 213, f 214, f 215, f 216, f 217, f 218, f 219, f 220, f 221, f 222, f 223, f 224, f 225, f 226, f 227, f 228, f 229, f 230, f 231, f 232, f 233, f 234, f 235, f 236, f 237, f 238, f 239, f 240, f 241, f 242, f 243, f 244, f 245, f 246, f 247, f 248, f 249, f 250, f 251, f 252, f 253, f 254, f 255, f 256, f 257, f 258, f 259, f 260, f 261, f 262, f 263, f 264, f 265, f 266, f 267, f 268, f 269, f 270, f 271, f 272, f 273, f 274, f 275, f 276, f 277, f 278, f 279] := by kernel_rfl
theorem Fr.ex280 {a : Act} (h : Fr 280 a) : ∃ f : Nat → Value, (∀ i, sl a i = f i) ∧ a = ⟨#[f 0, f 1, f 2, f 3, f 4, f 5, f 6, f 7, f 8, f 9, f 10, f 11, f 12, f 13, f 14, f 15, f 16, f 17, f 18, f 19, f 20, f 21, f 22, f 23, f 24, f 25, f 26, f 27, f 28, f 29, f 30, f 31, f 32, f 33, f 34, f 35, f 36, f 37, f 38, f 39, f 40, f 41, f 42, f 43, f 44, f 45, f 46, f 47, f 48, f 49, f 50, f 51, f 52, f 53, f 54, f 55, f 56, f 57, f 58, f 59, f 60, f 61, f 62, f 63, f 64, f 65, f 66, f 67, f 68, f 69, f 70, f 71, f 72, f 73, f 74, f 75, f 76, f 77, f 78, f 79, f 80, f 81, f 82, f 83, f 84, f 85, f 86, f 87, f 88, f 89, f 90, f 91, f 92, f 93, f 94, f 95, f 96, f 97, f 98, f 99, f 100, f 101, f 102, f 103, f 104, f 105, f 106, f 107, f 108, f 109, f 110, f 111, f 112, f 113, f 114, f 115, f 116, f 117, f 118, f 119, f 120, f 121, f 122, f 123, f 124, f 125, f 126, f 127, f 128, f 129, f 130, f 131, f 132, f 133, f 134, f 135, f 136, f 137, f 138, f 139, f 140, f 141, f 142, f 143, f 144, f 145, f 146, f 147, f 148, f 149, f 150, f 151, f 152, f 153, f 154, f 155, f 156, f 157, f 158, f 159, f 160, f 161, f 162, f 163, f 164, f 165, f 166, f 167, f 168, f 169, f 170, f 171, f 172, f 173, f 174, f 175, f 176, f 177, f 178, f 179, f 180, f 181, f 182, f 183, f 184, f 185, f 186, f 187, f 188, f 189, f 190, f 191, f 192, f 193, f 194, f 195, f 196, f 197, f 198, f 199, f 200, f 201, f 202, f 203, f 204, f 205, f 206, f 207, f 208, f 209, f 210, f 211, f 212, f 213, f 214, f 215, f 216, f 217, f 218, f 219, f 220, f 221, f 222, f 223, f 224, f 225, f 226, f 227, f 228, f 229, f 230, f 231, f 232, f 233, f 234, f 235, f 236, f 237, f 238, f 239, f 240, f 241, f 242, f 243, f 244, f 245, f 246, f 247, f 248, f 249, f 250, f 251, f 252, f 253, f 254, f 255, f 256, f 257, f 258, f 259, f 260, f 261, f 262, f 263, f 264, f 265, f 266, f 267, f 268, f 269, f 270, f 271, f 272, f 273, f 274, f 275, f 276, f 277, f 278, f 279], []⟩ := by
  obtain ⟨⟨l⟩, d⟩ := a
  obtain ⟨h1, h2⟩ := h
  refine ⟨fun i => (l[i]?).getD undef, fun i => rfl, ?_⟩
  have e := (list_fn l 280 h1).trans (range280 _)
  have h2' : d = [] := h2
  subst h2'
  exact congrArg (fun q => Act.mk ⟨q⟩ []) e
theorem wp_loop_m {P : Program} {Q : Exit → Act → World → Prop} {a : Act} {w : World} {c : Code} (I : Act → World → Prop) (μ : Act → World → Nat) (h₀ : I a w)
    (round : ∀ a w, I a w → ∀ (J K : Act → World → Prop), (∀ a' w', I a' w' ∧ μ a' w' < μ a w → J a' w') → (∀ a' w', Met J a' w' → K a' w') → c.wp P (Exit.then K Q) a w) : (Code.loop c).wp P Q a w :=
  wp_loop I μ h₀ fun a w h => round a w h _ _ (fun _ _ q => q) (fun _ _ q => q)
set_option maxRecDepth 100000 in
set_option maxHeartbeats 4000000 in
theorem c153 (k : Nat) (o : okK k) (hs : sK k = true) (w : World) : Calls Tryz.prog 153 #[.string (toB (txt6 (g6 k)))] w fun e w' => e = .returned (.tuple #[.agg #[.int .u64 (hK k), .int .u64 (lK k), .bool true, .bool (sK k), .string ⟨#[]⟩], .nilIface]) ∧ Plus w w' := by
  obtain ⟨st, en, m, hm, hcase, hz, htx⟩ := txt6_tt (g6 k)
  have hW := fun q => wdW_lt k st en q
  have hn := txt6_len (g6 k)
  have hlt := txt6_lt k
  have hok : ∀ b, b ∈ txt6 (g6 k) → OkB b := fun b hb => by
    rw [htx] at hb
    rcases List.mem_append.1 hb with h | h
    · split at h
      · simp at h; exact .inl h
      · simp at h
    · exact tt_okB _ _ _ hW _ _ b h
  have h2 : 2 ≤ (txt6 (g6 k)).length := by
    rw [htx]
    by_cases h0 : st = 0
    · rw [if_pos h0]; simp
    · rw [if_neg h0, List.nil_append]
      obtain ⟨m1, rfl⟩ : ∃ m1, m = m1 + 1 := ⟨m - 1, by omega⟩
      rw [ttT]
      have := (hexF _ (hW 0)).one
      split
      · simp; omega
      · rw [if_neg (by omega)]; simp; omega
  have HW : Hid (∀ q, wdW (g6 k) st en q < 65536) := hW
  have HO : Hid (okK k) := o
  have HSX : Hid (sK k = true) := hs
  have HZ : Hid (st < 8 → ∀ q, st ≤ q → q < en → g6 k q = 0) := hz
  have HS : Hid ((st = 255 ∧ m = 8) ∨ (st + 2 ≤ en ∧ en ≤ 8 ∧ m + en = st + 8)) := hcase
  have HTX : Hid (txt6 (g6 k) = (if st = 0 then [58, 58] else []) ++ ttT (g6 k) st en m 0) := htx
  have hm8 : m ≤ 8 := by omega
  have hx0 : ∀ kk w, (Instr.index 9 (.string (toB (txt6 (g6 k)))) (.int kk 0)).run Tryz.prog w = .ok (.int .u8 (((txt6 (g6 k)).getD 0 0 : Nat) : Int)) w := toB_ix _ hlt 0 (by omega)
  have hx1 : ∀ kk w, (Instr.index 9 (.string (toB (txt6 (g6 k)))) (.int kk 1)).run Tryz.prog w = .ok (.int .u8 (((txt6 (g6 k)).getD 1 0 : Nat) : Int)) w := toB_ix _ hlt 1 (by omega)
  have FS : Hid (∀ w, (Instr.slice 9 (.string (toB (txt6 (g6 k)))) (some (.int .i64 2)) none none).run Tryz.prog w = .ok (.string (toB ((txt6 (g6 k)).drop 2))) w) := fun w => toB_from _ 2 h2 w
  have hlen := fun w ty => toB_len (txt6 (g6 k)) (by omega) w ty
  have C177 : Hid (∀ w, Calls Tryz.prog 177 #[.string (toB (txt6 (g6 k))), .int .u8 37] w fun e w' => e = .returned (.int .i64 (-1)) ∧ Plus w w') := fun w => c177 _ hlt (by omega) 37 (fun b hb => (hok b hb).bd.2.1) w
  have z2 : decide ((2 : Int) ≤ (((txt6 (g6 k)).length : Nat) : Int)) = true := decide_eq_true (by omega)
  clear hlt hok hz o hs htx hW hm hcase
  obtain ⟨S, hS⟩ : ∃ S, S = toB (txt6 (g6 k)) := ⟨_, rfl⟩
  rw [← hS] at hx0 hx1 FS hlen C177 ⊢
  have HSS : Hid _ := hS
  obtain ⟨v0, hv0⟩ : ∃ v0, (txt6 (g6 k)).getD 0 0 = v0 := ⟨_, rfl⟩
  obtain ⟨v1, hv1⟩ : ∃ v1, (txt6 (g6 k)).getD 1 0 = v1 := ⟨_, rfl⟩
  obtain ⟨len, hle⟩ : ∃ len, (txt6 (g6 k)).length = len := ⟨_, rfl⟩
  rw [hv0] at hx0
  rw [hv1] at hx1
  rw [hle] at hlen z2
  have HV : Hid ((st = 0 → v0 = 58 ∧ v1 = 58) ∧ (st ≠ 0 → v0 ≠ 58)) := by
    refine ⟨fun h0 => ?_, fun h0 => ?_⟩
    · rw [← hv0, ← hv1, HTX.out, if_pos h0]; exact ⟨rfl, rfl⟩
    · rw [← hv0, HTX.out, if_neg h0, List.nil_append]
      obtain ⟨m1, hm1⟩ : ∃ m1, m = m1 + 1 := ⟨m - 1, by have := HS.out; omega⟩
      have h1 := hexF _ (HW.out 0)
      obtain ⟨d, hd, e, _⟩ := h1.dg 0 (by have := h1.one; omega)
      rw [hm1, ttT, List.getD_eq_getElem?_getD, List.getElem?_append_left (by have := h1.one; omega), ← List.getD_eq_getElem?_getD, e]
      have := dig_bd d hd
      omega
  obtain ⟨b0, hb0⟩ : ∃ b0, b0 = decide (st = 0) := ⟨_, rfl⟩
  have HB0 : Hid _ := hb0
  clear hv0 hv1 hle hS hn h2 hb0
  go_enter Tryz.func153, Tryz.ntmps153

  go_upto_region 10 with (first | (go_at_call 177; (with_reducible refine (C177.out _).mono ?_); rintro e w' ⟨rfl, dd, oo, rfl⟩))
  refine wp_cut (fun aa ww => ∃ B, Fr 280 aa ∧ sl aa 2 = .pointer (some ⟨w.heap.size, 0, none⟩) ∧ sl aa 4 = .string S ∧ sl aa 5 = .string ⟨#[]⟩ ∧ sl aa 7 = .pointer (some ⟨B, 0, none⟩) ∧ sl aa 8 = .int .i64 (-1) ∧ sl aa 46 = .bool b0 ∧ Hid (P6 w ww B (fun _ => 0))) (fun aa wc hcut => ?rest1) (fun J K' hJ hKK => ?first1)
  case first1 =>
    by_cases h0 : st = 0
    · obtain ⟨rfl, rfl⟩ := HV.out.1 h0
      have zz : b0 = true := HB0.out.trans (decide_eq_true h0)
      subst zz
      clear HV h0
      go_wp2_with fail
      refine Met.intro (hJ _ _ ?_)
      exact (⟨_, ⟨rfl, rfl⟩, rfl, rfl, rfl, rfl, rfl, rfl, (P6.start w _ _ (by simp) (by (repeat (with_reducible first | exact Chg.refl _ _ | refine Chg.plus ?_ _ _ | refine Chg.alloc ?_ _ | refine Chg.drew ?_))))⟩)
    · have hv := HV.out.2 h0
      have z1 : (((v0 : Nat) : Int) == 58) = false := by rw [beq_eq_false_iff_ne]; omega
      have zz : b0 = false := HB0.out.trans (decide_eq_false h0)
      subst zz
      clear HV h0
      go_wp2_with fail
      refine Met.intro (hJ _ _ ?_)
      exact (⟨_, ⟨rfl, rfl⟩, rfl, rfl, rfl, rfl, rfl, rfl, (P6.start w _ _ (by simp) (by (repeat (with_reducible first | exact Chg.refl _ _ | refine Chg.plus ?_ _ _ | refine Chg.alloc ?_ _ | refine Chg.drew ?_))))⟩)
  case rest1 =>
    obtain ⟨B, hcut⟩ := hcut
    obtain ⟨hfr, e2, e4, e5, e7, e8, e46, X0⟩ := hcut
    obtain ⟨f, hf, ea⟩ := hfr.ex280
    rw [(hf 2).symm.trans e2, (hf 4).symm.trans e4, (hf 5).symm.trans e5, (hf 7).symm.trans e7, (hf 8).symm.trans e8, (hf 46).symm.trans e46] at ea
    clear hf hfr e2 e4 e5 e7 e8 e46
    subst ea

    obtain ⟨w1, rfl⟩ : ∃ x : World, x = wc := ⟨_, rfl⟩
    clear hx0 hx1 HV C177 z2 hlen
    go_upto_if 46 with fail
    refine wp_cut (fun aa ww => ∃ S, Hid (S = toB (ttT (g6 k) st en m 0)) ∧ Fr 280 aa ∧ sl aa 2 = .pointer (some ⟨w.heap.size, 0, none⟩) ∧ sl aa 4 = .string S ∧ sl aa 5 = .string ⟨#[]⟩ ∧ sl aa 7 = .pointer (some ⟨B, 0, none⟩) ∧ sl aa 8 = .int .i64 (elW st 0) ∧ Hid (1 ≤ m ∧ P6 w ww B (fun _ => 0))) (fun aa wc hcut => ?rest2) (fun J K' hJ hKK => ?first2)
    case first2 =>
      by_cases h0 : st = 0
      · have zz : b0 = true := HB0.out.trans (decide_eq_true h0)
        subst zz
        have hE : elW st 0 = 0 := by unfold elW; rw [if_pos (by omega), h0]; rfl
        have hd : (txt6 (g6 k)).drop 2 = ttT (g6 k) st en m 0 := by rw [HTX.out, if_pos h0]; rfl
        have hsl := FS.out
        rw [hd] at hsl
        have hl2 := tt_len (g6 k) st en HW.out m 0
        have hlen2 := fun w ty => toB_len (ttT (g6 k) st en m 0) (by omega) w ty
        have HZ0 : Hid (m = 0 → ∀ q, q < 8 → g6 k q = 0) := fun e1 q hq => HZ.out (by omega) q (by omega) (by have := HS.out; omega)
        have HEE : Hid _ := hE
        have h1 : m ≠ 0 → 1 ≤ (ttT (g6 k) st en m 0).length := fun hne => by
          obtain ⟨m1, rfl⟩ : ∃ m1, m = m1 + 1 := ⟨m - 1, by omega⟩
          have := (hexF _ (HW.out 0)).one
          rw [ttT, List.length_append]; omega
        clear FS hd h0 hE
        by_cases hm0 : m = 0
        · have he : ttT (g6 k) st en m 0 = [] := by rw [hm0]; rfl
          have h6 := g6_zero k HO.out (HZ0.out hm0)
          have HH : Hid (hK k = 0 ∧ lK k = 0) := by unfold Hid; rw [hK_N, lK_N, h6.1, h6.2]; exact ⟨rfl, rfl⟩
          rw [he, toB_nil] at hsl
          rw [he, toB_nil] at hlen2
          simp only [List.length_nil] at hlen2
          obtain ⟨cb0, cb1, cb2, cb3, cb4, hBl, hfr⟩ := box5 X0.out.box
          have HC : Hid _ := X0.out.chg
          clear h6 hl2 he h1 hm0
          go_wp2_with (first | (go_at_call 125; (with_reducible refine (x125 _).mono ?_); rintro e w' ⟨rfl, dd, oo, rfl⟩) | (go_at_call 95; (with_reducible refine (c95 _ _ _ _).mono ?_); rintro e w' ⟨rfl, dd, oo, rfl⟩))
          refine bodyPost_ret (v := .tuple #[.agg #[.int .u64 (hK k), .int .u64 (lK k), .bool true, .bool (sK k), .string ⟨#[]⟩], .nilIface]) (by simp [results, Tryz.results153, go_sem, IntWalk.iteOmega, ↓IntWalk.iteOmega, cb0, cb1, cb2, cb3, cb4, hBl, HH.out.1, HH.out.2, HSX.out]) rfl ⟨rfl, Chg.plus_of (F := fun _ => False) (by (repeat (with_reducible refine Chg.plus ?_ _ _)); exact chg5 HC.out _ _ _ _ _) (fun _ _ => id)⟩
        · have z33 : (((((ttT (g6 k) st en m 0).length : Nat) : Int)) == 0) = false := by rw [beq_eq_false_iff_ne]; have := h1 hm0; omega
          obtain ⟨S2, hS2⟩ : ∃ S2, S2 = toB (ttT (g6 k) st en m 0) := ⟨_, rfl⟩
          rw [← hS2] at hsl hlen2
          have HS2 : Hid _ := hS2
          generalize (ttT (g6 k) st en m 0).length = n2 at hlen2 z33
          have hm1 : 1 ≤ m := by omega
          clear h1 hl2 hm0 hS2
          go_wp2_with fail
          refine Met.intro (hJ _ _ ?_)
          exact (⟨S2, HS2.out, ⟨rfl, rfl⟩, rfl, rfl, rfl, rfl, (by rw [HEE.out]; rfl), hm1, X0.out.step (by (repeat (with_reducible first | exact Chg.refl _ _ | refine Chg.plus ?_ _ _ | refine Chg.alloc ?_ _ | refine Chg.drew ?_)))⟩)
      · have zz : b0 = false := HB0.out.trans (decide_eq_false h0)
        subst zz
        have HE : Hid (elW st 0 = -1) := by unfold Hid elW; rw [if_neg (by omega)]
        have HSE : Hid (S = toB (ttT (g6 k) st en m 0)) := by unfold Hid; rw [HSS.out, HTX.out, if_neg h0]; rfl
        have hm1 : 1 ≤ m := by have := HS.out; omega
        clear h0
        go_wp2_with fail
        refine Met.intro (hJ _ _ ?_)
        exact (⟨S, HSE.out, ⟨rfl, rfl⟩, rfl, rfl, rfl, rfl, (by rw [HE.out]; rfl), hm1, X0.out.step (by (repeat (with_reducible first | exact Chg.refl _ _ | refine Chg.plus ?_ _ _ | refine Chg.alloc ?_ _ | refine Chg.drew ?_)))⟩)
    case rest2 =>
      clear HSS HTX FS
      clear S
      obtain ⟨S, HS0, hcut⟩ := hcut
      obtain ⟨hfr, e2, e4, e5, e7, e8, Z1⟩ := hcut
      obtain ⟨f, hf, ea⟩ := hfr.ex280
      rw [(hf 2).symm.trans e2, (hf 4).symm.trans e4, (hf 5).symm.trans e5, (hf 7).symm.trans e7, (hf 8).symm.trans e8] at ea
      clear hf hfr e2 e4 e5 e7 e8
      subst ea

      obtain ⟨w2, rfl⟩ : ∃ x : World, x = wc := ⟨_, rfl⟩
      have hm1 : 1 ≤ m := Z1.out.1
      have HP2 : Hid (P6 w w2 B (fun _ => 0)) := Z1.out.2
      clear Z1 X0
      go_upto_block 0 with fail
      refine wp_cut (fun aa ww => Fr 280 aa ∧ sl aa 2 = .pointer (some ⟨w.heap.size, 0, none⟩) ∧ sl aa 4 = .string ⟨#[]⟩ ∧ sl aa 5 = .string ⟨#[]⟩ ∧ sl aa 6 = .int .i64 ((2 * m : Nat) : Int) ∧ sl aa 7 = .pointer (some ⟨B, 0, none⟩) ∧ sl aa 8 = .int .i64 (elW st m) ∧ Hid (∃ f, P6 w ww B f ∧ ∀ q, q < 2 * m → f q = bW (wdW (g6 k) st en) q)) (fun aa wc hcut => ?rest3) (fun J K' hJ hKK => ?first3)
      case first3 =>
        go_wp2_with fail
        refine wp_loop_m (fun aa ww => ∃ (c n i : Nat) (S : ByteArray), Hid (S = toB (ttT (g6 k) st en (n + 1) c)) ∧ i = 2 * c ∧ c + n + 1 = m ∧ Fr 280 aa ∧ sl aa 2 = .pointer (some ⟨w.heap.size, 0, none⟩) ∧ sl aa 4 = .string S ∧ sl aa 5 = .string ⟨#[]⟩ ∧ sl aa 6 = .int .i64 ((i : Nat) : Int) ∧ sl aa 7 = .pointer (some ⟨B, 0, none⟩) ∧ sl aa 8 = .int .i64 (elW st c) ∧ Hid (∃ f, P6 w ww B f ∧ ∀ q, q < i → f q = bW (wdW (g6 k) st en) q))
          (fun aa _ => 16 - (intOf (sl aa 6)).toNat) ?start1 ?round1
        case start1 => exact ⟨0, m - 1, 0, S, by rw [show m - 1 + 1 = m by omega]; exact HS0, rfl, by omega, ⟨rfl, rfl⟩, rfl, rfl, rfl, rfl, rfl, rfl, _, HP2.out.step (by (repeat (with_reducible first | exact Chg.refl _ _ | refine Chg.plus ?_ _ _ | refine Chg.alloc ?_ _ | refine Chg.drew ?_))), fun q h => absurd h (by omega)⟩
        case round1 =>
          clear HS0
          clear S
          intro aa wr hrel JL KL hJL hKL
          obtain ⟨c, n, i, S, HS1, hi, hc, hrel⟩ := hrel
          obtain ⟨hfr, e2, e4, e5, e6, e7, e8, X⟩ := hrel
          obtain ⟨f, hf, ea⟩ := hfr.ex280
          rw [(hf 2).symm.trans e2, (hf 4).symm.trans e4, (hf 5).symm.trans e5, (hf 6).symm.trans e6, (hf 7).symm.trans e7, (hf 8).symm.trans e8] at ea
          clear hf hfr e2 e4 e5 e6 e7 e8
          subst ea

          obtain ⟨W0, rfl⟩ : ∃ x : World, x = wr := ⟨_, rfl⟩
          obtain ⟨ff, HP, HFQ⟩ : ∃ ff, Hid (P6 w W0 B ff) ∧ Hid (∀ q, q < i → ff q = bW (wdW (g6 k) st en) q) := X.out
          obtain ⟨x, ex⟩ : ∃ x, wdW (g6 k) st en c = x := ⟨_, rfl⟩
          have hx : x < 65536 := by rw [← ex]; exact HW.out c
          obtain ⟨D, eD⟩ : ∃ D, hexB x = D := ⟨_, rfl⟩
          have HX : Hid (HexF D x) := by rw [← eD]; exact hexF x hx
          obtain ⟨d, hdd⟩ : ∃ d, D.length = d := ⟨_, rfl⟩
          obtain ⟨tl, eT⟩ : ∃ tl, tl = (if c + 1 = st then 58 :: 58 :: ttT (g6 k) st en n (c + 1) else if n = 0 then [] else 58 :: ttT (g6 k) st en n (c + 1)) := ⟨_, rfl⟩
          have HF : HeadF (ttT (g6 k) st en (n + 1) c) D tl := ⟨by rw [ttT, ex, eD, eT], fun b hb => (tt_okB _ _ _ HW.out _ _ b hb).bd.1⟩
          have hL := tt_len (g6 k) st en HW.out (n + 1) c
          have hlen := fun w ty => toB_len (ttT (g6 k) st en (n + 1) c) (by omega) w ty
          have FX : Hid (∀ j, j < (ttT (g6 k) st en (n + 1) c).length → ∀ kk w, (Instr.index 9 (.string (toB (ttT (g6 k) st en (n + 1) c))) (.int kk ((j : Nat) : Int))).run Tryz.prog w = .ok (.int .u8 (((ttT (g6 k) st en (n + 1) c).getD j 0 : Nat) : Int)) w) := fun j hj kk w => toB_ix _ HF.ok j hj kk w
          have hdl : (ttT (g6 k) st en (n + 1) c).length = d + tl.length := by rw [HF.app, List.length_append, hdd]
          have hsl := toB_from (ttT (g6 k) st en (n + 1) c) d (by omega)
          rw [show (ttT (g6 k) st en (n + 1) c).drop d = tl by rw [← hdd]; exact HF.drop] at hsl
          have HG : Hid (∀ j, j < d → (ttT (g6 k) st en (n + 1) c).getD j 0 = D.getD j 0) := fun j hj => HF.get j (by omega)
          have HGd : Hid ((ttT (g6 k) st en (n + 1) c).getD d 0 = tl.getD 0 0) := by rw [← hdd]; exact HF.at
          have hot : LtB tl := fun b hb => HF.ok b (by rw [HF.app]; exact List.mem_append_right _ hb)
          rw [← HS1.out] at hlen FX hsl
          obtain ⟨G, hG⟩ : ∃ G : Nat → Nat, ∀ j, (ttT (g6 k) st en (n + 1) c).getD j 0 = G j := ⟨_, fun _ => rfl⟩
          obtain ⟨len, hle⟩ : ∃ len, (ttT (g6 k) st en (n + 1) c).length = len := ⟨_, rfl⟩
          simp only [hG, hle] at hlen FX hdl HG HGd hL
          have hd1 : 1 ≤ d := by rw [← hdd]; exact HX.out.one
          have hd4 : d ≤ 4 := by rw [← hdd]; exact HX.out.four
          have HSL : Hid _ := hsl
          have HSEP : Hid (d = len ∨ (d < len ∧ G d = 58)) := by
            unfold Hid
            rw [HGd.out]
            by_cases e : tl = []
            · left; rw [e] at hdl; simpa using hdl.symm
            · right
              refine ⟨by have := List.length_pos_iff.2 e; omega, ?_⟩
              rw [eT] at e ⊢
              split
              · rfl
              · rename_i h1
                rw [if_neg h1] at e
                split
                · rename_i h2; rw [if_pos h2] at e; exact absurd rfl e
                · rfl
          have HET : Hid _ := eT
          have HDL : Hid _ := hdl
          have HOT : Hid _ := hot
          have HDD : Hid _ := hdd
          have hdlen : d ≤ len := by omega
          have HEX : Hid _ := ex
          have HI : Hid _ := hi
          have HC : Hid _ := hc
          have h16 : i + 1 < 16 := by omega
          have z16 : decide ((i : Int) < 16) = true := decide_eq_true (by omega)
          obtain ⟨ee, hee⟩ : ∃ ee, ee = elW st c := ⟨_, rfl⟩
          have HEE : Hid _ := hee
          rw [← hee]
          have hn8 : n < 8 := by omega
          clear hsl eT hdl hot hdd ex eD HF X hG hle hL hi hc hee HS1
          clear hm1 hm8
          go_upto_block 2 with fail
          refine wp_cut (fun aa ww => Fr 280 aa ∧ sl aa 2 = .pointer (some ⟨w.heap.size, 0, none⟩) ∧ sl aa 4 = .string S ∧ sl aa 5 = .string ⟨#[]⟩ ∧ sl aa 6 = .int .i64 ((i : Nat) : Int) ∧ sl aa 7 = .pointer (some ⟨B, 0, none⟩) ∧ sl aa 8 = .int .i64 ee ∧ sl aa 9 = .int .i64 ((d : Nat) : Int) ∧ sl aa 10 = .int .u32 ((x : Nat) : Int) ∧ Hid (Chg (fun _ => False) W0 ww)) (fun aa wc hcut => ?rest4) (fun J K' hJ hKK => ?first4)
          case first4 =>
            go_wp2_with fail
            refine wp_loop_m (fun aa ww => ∃ j v : Nat, j ≤ d ∧ v ≤ 65535 ∧ Fr 280 aa ∧ sl aa 2 = .pointer (some ⟨w.heap.size, 0, none⟩) ∧ sl aa 4 = .string S ∧ sl aa 5 = .string ⟨#[]⟩ ∧ sl aa 6 = .int .i64 ((i : Nat) : Int) ∧ sl aa 7 = .pointer (some ⟨B, 0, none⟩) ∧ sl aa 8 = .int .i64 ee ∧ sl aa 9 = .int .i64 ((j : Nat) : Int) ∧ sl aa 10 = .int .u32 ((v : Nat) : Int) ∧ Hid (v = hvD D j ∧ Chg (fun _ => False) W0 ww)) (fun aa _ => d - (intOf (sl aa 9)).toNat) ?start2 ?round2
            case start2 => exact ⟨0, 0, Nat.zero_le _, by omega, ⟨rfl, rfl⟩, rfl, rfl, rfl, rfl, rfl, rfl, rfl, rfl, rfl, by (repeat (with_reducible first | exact Chg.refl _ _ | refine Chg.plus ?_ _ _ | refine Chg.alloc ?_ _ | refine Chg.drew ?_))⟩
            case round2 =>
              intro aa wr hrel JL2 KL2 hJL2 hKL2
              obtain ⟨j, v, hj, hv, hrel⟩ := hrel
              obtain ⟨hfr, e2, e4, e5, e6, e7, e8, e9, e10, Y⟩ := hrel
              obtain ⟨f, hf, ea⟩ := hfr.ex280
              rw [(hf 2).symm.trans e2, (hf 4).symm.trans e4, (hf 5).symm.trans e5, (hf 6).symm.trans e6, (hf 7).symm.trans e7, (hf 8).symm.trans e8, (hf 9).symm.trans e9, (hf 10).symm.trans e10] at ea
              clear hf hfr e2 e4 e5 e6 e7 e8 e9 e10
              subst ea

              obtain ⟨W1, rfl⟩ : ∃ x : World, x = wr := ⟨_, rfl⟩
              by_cases hlt : j < d
              · obtain ⟨dg, hdg, e1, e2, e3⟩ := HX.out.dg j (by rw [HDD.out]; exact hlt)
                have hxx := FX.out j (by omega)
                rw [HG.out j hlt, e1] at hxx
                have HV : Hid (v * 16 + dg = hvD D (j + 1)) := by unfold Hid; rw [e2, Y.out.1]
                have hv2 : v * 16 + dg ≤ 65535 := by rw [HV.out]; exact e3
                have z0 : decide ((j : Int) < (len : Int)) = true := decide_eq_true (by omega)
                have z9 : decide ((3 : Int) < (j : Int)) = false := decide_eq_false (by omega)
                have e3 : Hid _ := e3
                clear e1 e2
                rcases dig_bd dg hdg with ⟨q1, q2, q3⟩ | ⟨q1, q2, q3⟩
                · generalize dig dg = ch at hxx q1 q2 q3
                  have HQ : Hid _ := q3
                  have hv3 : v * 16 + (ch - 48) ≤ 65535 := by omega
                  clear q3 hv2
                  go_wp2_with fail
                  refine Met.intro (hJL2 _ _ ?_)
                  exact ⟨⟨j + 1, v * 16 + dg, by omega, (by rw [HV.out]; exact e3.out), ⟨rfl, rfl⟩, rfl, rfl, rfl, rfl, rfl, rfl, congrArg (Value.int .i64) (by omega), congrArg (Value.int .u32) (by have := HQ.out; omega), HV.out, Y.out.2.trans (by (repeat (with_reducible first | exact Chg.refl _ _ | refine Chg.plus ?_ _ _ | refine Chg.alloc ?_ _ | refine Chg.drew ?_)))⟩, by show d - (intOf (.int .i64 ((j : Int) + 1))).toNat < d - (intOf (.int .i64 (j : Int))).toNat; simp [intOf]; omega⟩
                · generalize dig dg = ch at hxx q1 q2 q3
                  have HQ : Hid _ := q3
                  have hv3 : v * 16 + (ch - 87) ≤ 65535 := by omega
                  clear q3 hv2
                  go_wp2_with fail
                  refine Met.intro (hJL2 _ _ ?_)
                  exact ⟨⟨j + 1, v * 16 + dg, by omega, (by rw [HV.out]; exact e3.out), ⟨rfl, rfl⟩, rfl, rfl, rfl, rfl, rfl, rfl, congrArg (Value.int .i64) (by omega), congrArg (Value.int .u32) (by have := HQ.out; omega), HV.out, Y.out.2.trans (by (repeat (with_reducible first | exact Chg.refl _ _ | refine Chg.plus ?_ _ _ | refine Chg.alloc ?_ _ | refine Chg.drew ?_)))⟩, by show d - (intOf (.int .i64 ((j : Int) + 1))).toNat < d - (intOf (.int .i64 (j : Int))).toNat; simp [intOf]; omega⟩
              · obtain rfl : j = d := by omega
                have HVX : Hid (v = x) := by unfold Hid; rw [Y.out.1, ← HDD.out]; exact HX.out.fin
                obtain rfl : v = x := HVX.out
                rcases HSEP.out with q | ⟨q1, q2⟩
                · have z0 : decide ((j : Int) < (len : Int)) = false := decide_eq_false (by omega)
                  have hnl : len ≤ j := by omega
                  clear q
                  go_wp2_with fail
                  refine Met.intro (hJ _ _ ?_)
                  exact ⟨⟨rfl, rfl⟩, rfl, rfl, rfl, rfl, rfl, rfl, rfl, rfl, Y.out.2.trans (by (repeat (with_reducible first | exact Chg.refl _ _ | refine Chg.plus ?_ _ _ | refine Chg.alloc ?_ _ | refine Chg.drew ?_)))⟩
                · have z0 : decide ((j : Int) < (len : Int)) = true := decide_eq_true (by omega)
                  have hxx := FX.out j (by omega)
                  rw [q2] at hxx
                  clear q2
                  go_wp2_with fail
                  refine Met.intro (hJ _ _ ?_)
                  exact ⟨⟨rfl, rfl⟩, rfl, rfl, rfl, rfl, rfl, rfl, rfl, rfl, Y.out.2.trans (by (repeat (with_reducible first | exact Chg.refl _ _ | refine Chg.plus ?_ _ _ | refine Chg.alloc ?_ _ | refine Chg.drew ?_)))⟩
          case rest4 =>
            obtain ⟨hfr, e2, e4, e5, e6, e7, e8, e9, e10, Y0⟩ := hcut
            obtain ⟨f, hf, ea⟩ := hfr.ex280
            rw [(hf 2).symm.trans e2, (hf 4).symm.trans e4, (hf 5).symm.trans e5, (hf 6).symm.trans e6, (hf 7).symm.trans e7, (hf 8).symm.trans e8, (hf 9).symm.trans e9, (hf 10).symm.trans e10] at ea
            clear hf hfr e2 e4 e5 e6 e7 e8 e9 e10
            subst ea

            obtain ⟨W3, rfl⟩ : ∃ x : World, x = wc := ⟨_, rfl⟩
            have HP3 : Hid (P6 w W3 B ff) := HP.out.step Y0.out
            obtain ⟨cb0, fb0, hB⟩ := HP3.out.arr.at i (by omega)
            obtain ⟨cb1, fb1, _⟩ := HP3.out.arr.at (i + 1) (by have := HI.out; omega)
            obtain ⟨f4, hf4⟩ : ∃ f4 : Nat → Nat, f4 = (fun q => if q = i + 1 then x % 256 else if q = i then x / 256 else ff q) := ⟨_, rfl⟩
            have HP4 : Hid (P6 w ((W3.setCell ⟨B, i, none⟩ (.int .u8 ((x / 256 : Nat) : Int))).setCell ⟨B, i + 1, none⟩ (.int .u8 ((x % 256 : Nat) : Int))) B f4) := by rw [hf4]; exact (HP3.out.set i (x / 256)).set (i + 1) (x % 256)
            have HQ4 : Hid (∀ q, q < i + 2 → f4 q = bW (wdW (g6 k) st en) q) := by
              intro q hq
              rw [hf4]
              show (if q = i + 1 then x % 256 else if q = i then x / 256 else ff q) = _
              by_cases e : q = i + 1
              · rw [if_pos e, e, HI.out, bW_odd, HEX.out]
              · rw [if_neg e]
                by_cases e2 : q = i
                · rw [if_pos e2, e2, HI.out, bW_even, HEX.out]
                · rw [if_neg e2]; exact HFQ.out q (by omega)
            have zd : (((d : Nat) : Int) == 0) = false := by rw [beq_eq_false_iff_ne]; omega
            have hlt0 := tt_len (g6 k) st en HW.out n (c + 1)
            have eT := HET.out
            have hdl := HDL.out
            have hot := HOT.out
            have hslx := HSL.out
            clear hf4 HSEP Y0 HSL HET HDL HOT
            clear HP HFQ HP3 HEX HX HG
            by_cases hst : c + 1 = st
            · rw [if_pos hst] at eT
              subst eT
              have hE : ee = -1 := HEE.out.trans (elW_of_lt (by omega))
              have hlt : d < len := by rw [hdl]; simp
              have hxx := FX.out d hlt
              rw [HGd.out] at hxx
              simp only [List.getD_cons_zero] at hxx
              have ot1 : LtB (58 :: ttT (g6 k) st en n (c + 1)) := fun b hb => hot b (List.mem_cons_of_mem _ hb)
              have i1 := cons_ix 58 _ hot
              have s1 := cons_sl 58 (58 :: ttT (g6 k) st en n (c + 1))
              have i2 := cons_ix 58 _ ot1
              have s2 := cons_sl 58 (ttT (g6 k) st en n (c + 1))
              have l1 := fun w ty => toB_len (58 :: 58 :: ttT (g6 k) st en n (c + 1)) (by simp; omega) w ty
              have l3 := fun w ty => toB_len (ttT (g6 k) st en n (c + 1)) (by omega) w ty
              obtain ⟨n3, hn3⟩ : ∃ n3, (ttT (g6 k) st en n (c + 1)).length = n3 := ⟨_, rfl⟩
              rw [hn3] at l3
              rw [show (58 :: 58 :: ttT (g6 k) st en n (c + 1)).length = n3 + 2 by rw [← hn3]; rfl] at l1
              have zl0 : (((n3 + 2 : Nat) : Int) == 0) = false := by rw [beq_eq_false_iff_ne]; omega
              have zl1 : (((n3 + 2 : Nat) : Int) == 1) = false := by rw [beq_eq_false_iff_ne]; omega
              have HE2 : Hid (elW st (c + 1) = ((i + 2 : Nat) : Int)) := (elW_of_le (by omega)).trans (by have := HI.out; omega)
              obtain ⟨S1, hS1⟩ : ∃ S1, S1 = toB (58 :: 58 :: ttT (g6 k) st en n (c + 1)) := ⟨_, rfl⟩
              obtain ⟨S2, hS2⟩ : ∃ S2, S2 = toB (58 :: ttT (g6 k) st en n (c + 1)) := ⟨_, rfl⟩
              obtain ⟨S3, hS3⟩ : ∃ S3, S3 = toB (ttT (g6 k) st en n (c + 1)) := ⟨_, rfl⟩
              rw [← hS1] at hslx i1 s1 l1
              rw [← hS2] at s1 i2 s2
              rw [← hS3] at s2 l3
              have HS3 : Hid (S3 = toB (ttT (g6 k) st en n (c + 1))) := hS3
              have HN : Hid ((n = 0 → n3 = 0) ∧ (n ≠ 0 → 1 ≤ n3)) := by
                refine ⟨fun e => by rw [← hn3, e]; rfl, fun e => ?_⟩
                obtain ⟨n', rfl⟩ : ∃ n', n = n' + 1 := ⟨n - 1, by omega⟩
                have := (hexF _ (HW.out (c + 1))).one
                rw [← hn3, ttT, List.length_append]; omega
              subst hE
              clear hot ot1 hdl hst hS1 hS2 hS3 hn3 hlt0 HEE HGd
              by_cases hn0 : n = 0
              · obtain rfl : n3 = 0 := HN.out.1 hn0
                have HS4 : Hid (S3 = ⟨#[]⟩) := by unfold Hid; rw [HS3.out, hn0]; rfl
                have HN0 : Hid _ := hn0
                clear HN hn0 zl0 zl1
                have zl0 : (((0 + 2 : Nat) : Int) == 0) = false := by decide
                have zl1 : (((0 + 2 : Nat) : Int) == 1) = false := by decide
                go_wp2_with fail
                refine Met.intro (hJ _ _ ?_)
                exact ⟨⟨rfl, rfl⟩, rfl, (by rw [← HS4.out]; rfl), rfl, congrArg (Value.int .i64) (by have := HN0.out; have := HC.out; have := HI.out; omega), rfl, (by rw [show m = c + 1 by have := HN0.out; have := HC.out; omega, HE2.out]; rfl), _, HP4.out, (by rw [show 2 * m = i + 2 by have := HN0.out; have := HC.out; have := HI.out; omega]; exact HQ4.out)⟩
              · have h1 : 1 ≤ n3 := HN.out.2 hn0
                have z3 : (((n3 : Nat) : Int) == 0) = false := by rw [beq_eq_false_iff_ne]; omega
                have HN0 : Hid (1 ≤ n) := by unfold Hid; omega
                clear HN hn0
                go_wp2_with fail
                refine Met.intro (hJL _ _ ?_)
                exact ⟨⟨c + 1, n - 1, i + 2, S3, (by rw [show n - 1 + 1 = n by have := HN0.out; omega]; exact HS3), by have := HI.out; omega, by have := HN0.out; have := HC.out; omega, ⟨rfl, rfl⟩, rfl, rfl, rfl, congrArg (Value.int .i64) (by omega), rfl, (by rw [HE2.out]; rfl), _, HP4.out, HQ4.out⟩, by show 16 - (intOf (.int .i64 ((i : Int) + 2))).toNat < 16 - (intOf (.int .i64 (i : Int))).toNat; simp [intOf]; omega⟩
            · rw [if_neg hst] at eT
              have HES : Hid (elW st (c + 1) = ee) := (elW_step hst).trans HEE.out.symm
              by_cases hn0 : n = 0
              · rw [if_pos hn0] at eT
                subst eT
                have hnl : len ≤ d := by rw [hdl]; simp
                have l1 := fun w ty => toB_len [] (by simp) w ty
                rw [toB_nil] at hslx l1
                simp only [List.length_nil] at l1
                have HN0 : Hid _ := hn0
                clear hot hdl hst hn0 HGd HEE
                go_wp2_with fail
                refine Met.intro (hJ _ _ ?_)
                exact ⟨⟨rfl, rfl⟩, rfl, rfl, rfl, congrArg (Value.int .i64) (by have := HN0.out; have := HC.out; have := HI.out; omega), rfl, (by rw [show m = c + 1 by have := HN0.out; have := HC.out; omega, HES.out]; rfl), _, HP4.out, (by rw [show 2 * m = i + 2 by have := HN0.out; have := HC.out; have := HI.out; omega]; exact HQ4.out)⟩
              · rw [if_neg hn0] at eT
                subst eT
                obtain ⟨n', rfl⟩ : ∃ n', n = n' + 1 := ⟨n - 1, by omega⟩
                have hlt : d < len := by rw [hdl]; simp
                have hxx := FX.out d hlt
                rw [HGd.out] at hxx
                simp only [List.getD_cons_zero] at hxx
                have hot2 : LtB (ttT (g6 k) st en (n' + 1) (c + 1)) := fun b hb => hot b (List.mem_cons_of_mem _ hb)
                have i1 := cons_ix 58 _ hot
                have s1 := cons_sl 58 (ttT (g6 k) st en (n' + 1) (c + 1))
                have HX2 := hexF _ (HW.out (c + 1))
                obtain ⟨d0, hd0, e0, _⟩ := HX2.dg 0 (by have := HX2.one; omega)
                obtain ⟨n3, hn3⟩ : ∃ n3, (ttT (g6 k) st en (n' + 1) (c + 1)).length = n3 := ⟨_, rfl⟩
                have h1 : 1 ≤ n3 := by
                  have := HX2.one
                  rw [← hn3, ttT, List.length_append]; omega
                have eg : (ttT (g6 k) st en (n' + 1) (c + 1)).getD 0 0 = dig d0 := by
                  rw [ttT, List.getD_eq_getElem?_getD, List.getElem?_append_left (by have := HX2.one; omega), ← List.getD_eq_getElem?_getD, e0]
                have i2 : ∀ kk w, (Instr.index 9 (.string (toB (ttT (g6 k) st en (n' + 1) (c + 1)))) (.int kk 0)).run Tryz.prog w = .ok (.int .u8 ((dig d0 : Nat) : Int)) w := fun kk w => by
                  have := toB_ix _ hot2 0 (by omega) kk w
                  rw [eg] at this
                  exact this
                have z58 : (((dig d0 : Nat) : Int) == 58) = false := by rw [beq_eq_false_iff_ne]; have := dig_bd d0 hd0; omega
                have l1 := fun w ty => toB_len (58 :: ttT (g6 k) st en (n' + 1) (c + 1)) (by simp; omega) w ty
                rw [show (58 :: ttT (g6 k) st en (n' + 1) (c + 1)).length = n3 + 1 by rw [← hn3]; rfl] at l1
                have zl0 : (((n3 + 1 : Nat) : Int) == 0) = false := by rw [beq_eq_false_iff_ne]; omega
                have zl1 : (((n3 + 1 : Nat) : Int) == 1) = false := by rw [beq_eq_false_iff_ne]; omega
                generalize dig d0 = c0 at i2 z58
                obtain ⟨S1, hS1⟩ : ∃ S1, S1 = toB (58 :: ttT (g6 k) st en (n' + 1) (c + 1)) := ⟨_, rfl⟩
                obtain ⟨S3, hS3⟩ : ∃ S3, S3 = toB (ttT (g6 k) st en (n' + 1) (c + 1)) := ⟨_, rfl⟩
                rw [← hS1] at hslx i1 s1 l1
                rw [← hS3] at s1 i2
                have HS3 : Hid (S3 = toB (ttT (g6 k) st en (n' + 1) (c + 1))) := hS3
                clear hot hot2 e0 eg HX2 hd0 hdl HGd hst hn0 hS1 hS3 hn3 hlt0 HEE
                go_wp2_with fail
                refine Met.intro (hJL _ _ ?_)
                exact ⟨⟨c + 1, n', i + 2, S3, HS3, by have := HI.out; omega, by have := HC.out; omega, ⟨rfl, rfl⟩, rfl, rfl, rfl, congrArg (Value.int .i64) (by omega), rfl, (by rw [HES.out]; rfl), _, HP4.out, HQ4.out⟩, by show 16 - (intOf (.int .i64 ((i : Int) + 2))).toNat < 16 - (intOf (.int .i64 (i : Int))).toNat; simp [intOf]; omega⟩
      case rest3 =>
        obtain ⟨hfr, e2, e4, e5, e6, e7, e8, Z2⟩ := hcut
        obtain ⟨f, hf, ea⟩ := hfr.ex280
        rw [(hf 2).symm.trans e2, (hf 4).symm.trans e4, (hf 5).symm.trans e5, (hf 6).symm.trans e6, (hf 7).symm.trans e7, (hf 8).symm.trans e8] at ea
        clear hf hfr e2 e4 e5 e6 e7 e8
        subst ea

        obtain ⟨w3, rfl⟩ : ∃ x : World, x = wc := ⟨_, rfl⟩
        obtain ⟨ff, HP, HF⟩ : ∃ ff, Hid (P6 w w3 B ff) ∧ Hid (∀ q, q < 2 * m → ff q = bW (wdW (g6 k) st en) q) := Z2.out
        have l0 := fun w ty => toB_len [] (by simp) w ty
        rw [toB_nil] at l0
        simp only [List.length_nil] at l0
        clear Z2 HP2 HS0
        clear S
        rcases HS.out with ⟨h1, h2⟩ | ⟨h1, h2, h3⟩
        · have hE : elW st m = -1 := elW_of_lt (by omega)
          rw [hE]
          have HPG : P6 w w3 B (bW (g6 k)) := HP.out.congr (fun q hq => by
            rw [HF.out q (by omega)]
            unfold bW
            rw [show wdW (g6 k) st en (q / 2) = g6 k (q / 2) from if_pos (by omega)])
          obtain ⟨WW, rfl⟩ : ∃ x : World, x = w3 := ⟨_, rfl⟩
          obtain rfl : m = 8 := h2
          clear hE h1 HS
          have HPB : Hid _ := HPG
          obtain ⟨cb0, cb1, cb2, cb3, cb4, hBl, hfz⟩ := box5 HPG.box
          have HC : Hid (Chg (fun _ => False) w WW) := HPG.chg
          obtain ⟨y0, _, hB⟩ := HPG.arr.at 0 (by omega)
          obtain ⟨y1, _, _⟩ := HPG.arr.at 1 (by omega)
          obtain ⟨y2, _, _⟩ := HPG.arr.at 2 (by omega)
          obtain ⟨y3, _, _⟩ := HPG.arr.at 3 (by omega)
          obtain ⟨y4, _, _⟩ := HPG.arr.at 4 (by omega)
          obtain ⟨y5, _, _⟩ := HPG.arr.at 5 (by omega)
          obtain ⟨y6, _, _⟩ := HPG.arr.at 6 (by omega)
          obtain ⟨y7, _, _⟩ := HPG.arr.at 7 (by omega)
          obtain ⟨y8, _, _⟩ := HPG.arr.at 8 (by omega)
          obtain ⟨y9, _, _⟩ := HPG.arr.at 9 (by omega)
          obtain ⟨y10, _, _⟩ := HPG.arr.at 10 (by omega)
          obtain ⟨y11, _, _⟩ := HPG.arr.at 11 (by omega)
          obtain ⟨y12, _, _⟩ := HPG.arr.at 12 (by omega)
          obtain ⟨y13, _, _⟩ := HPG.arr.at 13 (by omega)
          obtain ⟨y14, _, _⟩ := HPG.arr.at 14 (by omega)
          obtain ⟨y15, _, _⟩ := HPG.arr.at 15 (by omega)
          clear HPG
          go_wp2_with (first | (go_at_call 94; (with_reducible refine (k94 k HO.out HSX.out _).mono ?_); rintro e w' ⟨rfl, dd, oo, rfl⟩) | (go_at_call 95; (with_reducible refine (c95 _ _ _ _).mono ?_); rintro e w' ⟨rfl, dd, oo, rfl⟩))
          refine bodyPost_ret (v := .tuple #[.agg #[.int .u64 (hK k), .int .u64 (lK k), .bool true, .bool (sK k), .string ⟨#[]⟩], .nilIface]) (by simp [results, Tryz.results153, go_sem, IntWalk.iteOmega, ↓IntWalk.iteOmega, cb0, cb1, cb2, cb3, cb4, hBl]) rfl ⟨rfl, Chg.plus_of (F := fun _ => False) (by (repeat (with_reducible refine Chg.plus ?_ _ _)); exact chg5 HC.out _ _ _ _ _) (fun _ _ => id)⟩

        · obtain ⟨E, hEE⟩ : ∃ E, E = 2 * st := ⟨_, rfl⟩
          obtain ⟨M, hMM⟩ : ∃ M, M = 2 * m := ⟨_, rfl⟩
          obtain ⟨N, hNN⟩ : ∃ N, N = 16 - M := ⟨_, rfl⟩
          have hE : elW st m = ((E : Nat) : Int) := by rw [elW_of_le (by omega), hEE]
          have hN : (16 : Int) - ((M : Nat) : Int) = ((N : Nat) : Int) := by omega
          rw [hE, ← hMM]
          have q1 : E ≤ M := by omega
          have q2 : M < 16 := by omega
          have q3 : E + N ≤ 16 := by omega
          have q4 : N + M = 16 := by omega
          have HFB : Hid (∀ (f' : Nat → Nat), (∀ q, q < E → f' q = ff q) → (∀ q, E ≤ q → q < M → f' (q + N) = ff q) → ∀ q, q < 16 → (if E ≤ q ∧ q < E + N then 0 else f' q) = bW (g6 k) q) := fun f' a1 a2 q hq => by
            have := fin_bytes (g6 k) st en m N f' h1 h2 h3 (by omega) (HZ.out (by omega)) (fun q hq => by rw [a1 q (by omega)]; exact HF.out q (by omega)) (fun q hq1 hq2 => by rw [a2 q (by omega) (by omega)]; exact HF.out q (by omega)) q hq
            rw [← hEE] at this
            exact this
          clear hE HF HS
          clear hEE hMM hNN h1 h2 h3
          go_wp2_with fail
          refine wp_loop_m (fun aa ww => ∃ j1 : Nat, E ≤ j1 ∧ j1 ≤ M ∧ Fr 280 aa ∧ sl aa 2 = .pointer (some ⟨w.heap.size, 0, none⟩) ∧ sl aa 5 = .string ⟨#[]⟩ ∧ sl aa 7 = .pointer (some ⟨B, 0, none⟩) ∧ sl aa 8 = .int .i64 ((E : Nat) : Int) ∧ sl aa 14 = .int .i64 ((N : Nat) : Int) ∧ sl aa 15 = .int .i64 (((j1 : Nat) : Int) - 1) ∧ Hid (∃ f', P6 w ww B f' ∧ (∀ q, q < j1 → f' q = ff q) ∧ ∀ q, j1 ≤ q → q < M → f' (q + N) = ff q)) (fun aa _ => (intOf (sl aa 15) + 1).toNat) ?start3 ?round3
          case start3 => exact ⟨M, q1, Nat.le_refl _, ⟨rfl, rfl⟩, rfl, rfl, rfl, rfl, (by rw [← hN]; rfl), rfl, ff, HP.out.step (by (repeat (with_reducible first | exact Chg.refl _ _ | refine Chg.plus ?_ _ _ | refine Chg.alloc ?_ _ | refine Chg.drew ?_))), fun _ _ => rfl, fun q a b => absurd b (by omega)⟩
          case round3 =>
            intro aa wr hrel JL KL hJL hKL
            obtain ⟨j1, hj1, hj2, hrel⟩ := hrel
            obtain ⟨hfr, e2, e5, e7, e8, e14, e15, X⟩ := hrel
            obtain ⟨f, hf, ea⟩ := hfr.ex280
            rw [(hf 2).symm.trans e2, (hf 5).symm.trans e5, (hf 7).symm.trans e7, (hf 8).symm.trans e8, (hf 14).symm.trans e14, (hf 15).symm.trans e15] at ea
            clear hf hfr e2 e5 e7 e8 e14 e15
            subst ea

            obtain ⟨W0, rfl⟩ : ∃ x : World, x = wr := ⟨_, rfl⟩
            obtain ⟨f', HP', HA, HB'⟩ : ∃ f', Hid (P6 w W0 B f') ∧ Hid (∀ q, q < j1 → f' q = ff q) ∧ Hid (∀ q, j1 ≤ q → q < M → f' (q + N) = ff q) := X.out
            clear X
            by_cases hlt : E < j1
            · obtain ⟨j, rfl⟩ : ∃ j, j1 = j + 1 := ⟨j1 - 1, by omega⟩
              rw [show (((j + 1 : Nat) : Int) - 1) = ((j : Nat) : Int) by omega] at *
              have z0 : decide (((E : Nat) : Int) ≤ ((j : Nat) : Int)) = true := decide_eq_true (by omega)
              obtain ⟨ca, fa, hB⟩ := HP'.out.arr.at j (by omega)
              obtain ⟨cb, fb, _⟩ := HP'.out.arr.at (j + N) (by omega)
              have hq5 : j + N < 16 := by omega
              have HPN : Hid (P6 w (W0.setCell ⟨B, j + N, none⟩ (.int .u8 ((f' j : Nat) : Int))) B (fun i => if i = j + N then f' j else f' i)) := HP'.out.set (j + N) (f' j)
              have HAN : Hid (∀ q, q < j → (if q = j + N then f' j else f' q) = ff q) := fun q hq => by
                rw [if_neg (by omega)]; exact HA.out q (by omega)
              have HBN : Hid (∀ q, j ≤ q → q < M → (if q + N = j + N then f' j else f' (q + N)) = ff q) := fun q hq hq2 => by
                by_cases e : q = j
                · subst e; rw [if_pos rfl]; exact HA.out q (by omega)
                · rw [if_neg (by omega)]; exact HB'.out q (by omega) hq2
              go_wp2_with fail
              refine Met.intro (hJL _ _ ?_)
              exact ⟨⟨j, by omega, by omega, ⟨rfl, rfl⟩, rfl, rfl, rfl, rfl, rfl, rfl, _, HPN.out, HAN.out, HBN.out⟩, by show (intOf (.int .i64 ((j : Int) - 1)) + 1).toNat < (intOf (.int .i64 ((j : Nat) : Int)) + 1).toNat; simp [intOf]⟩
            · obtain rfl : j1 = E := by omega
              have z0 : decide (((j1 : Nat) : Int) ≤ ((j1 : Nat) : Int) - 1) = false := decide_eq_false (by omega)
              have hs := slice149 B j1 N (by omega) (by omega)
              have hcl := fun c ty => clr22 B j1 N c 149 f' W0 HP'.out.arr (by omega) (by omega) ty
              have HPZ : Hid (P6 w (W0.setCells B j1 (List.replicate N (.int .u8 0))) B (bW (g6 k))) := (HP'.out.zero N j1).congr (fun q hq => HFB.out f' HA.out HB'.out q hq)
              obtain ⟨WW, hWW⟩ : ∃ WW, WW = W0.setCells B j1 (List.replicate N (.int .u8 0)) := ⟨_, rfl⟩
              rw [← hWW] at hcl HPZ
              have HPG := HPZ.out
              clear hWW HPZ HFB HA HB'
              have HPB : Hid _ := HPG
              obtain ⟨cb0, cb1, cb2, cb3, cb4, hBl, hfz⟩ := box5 HPG.box
              have HC : Hid (Chg (fun _ => False) w WW) := HPG.chg
              obtain ⟨y0, _, hB⟩ := HPG.arr.at 0 (by omega)
              obtain ⟨y1, _, _⟩ := HPG.arr.at 1 (by omega)
              obtain ⟨y2, _, _⟩ := HPG.arr.at 2 (by omega)
              obtain ⟨y3, _, _⟩ := HPG.arr.at 3 (by omega)
              obtain ⟨y4, _, _⟩ := HPG.arr.at 4 (by omega)
              obtain ⟨y5, _, _⟩ := HPG.arr.at 5 (by omega)
              obtain ⟨y6, _, _⟩ := HPG.arr.at 6 (by omega)
              obtain ⟨y7, _, _⟩ := HPG.arr.at 7 (by omega)
              obtain ⟨y8, _, _⟩ := HPG.arr.at 8 (by omega)
              obtain ⟨y9, _, _⟩ := HPG.arr.at 9 (by omega)
              obtain ⟨y10, _, _⟩ := HPG.arr.at 10 (by omega)
              obtain ⟨y11, _, _⟩ := HPG.arr.at 11 (by omega)
              obtain ⟨y12, _, _⟩ := HPG.arr.at 12 (by omega)
              obtain ⟨y13, _, _⟩ := HPG.arr.at 13 (by omega)
              obtain ⟨y14, _, _⟩ := HPG.arr.at 14 (by omega)
              obtain ⟨y15, _, _⟩ := HPG.arr.at 15 (by omega)
              clear HPG
              go_wp2_with (first | (go_at_call 94; (with_reducible refine (k94 k HO.out HSX.out _).mono ?_); rintro e w' ⟨rfl, dd, oo, rfl⟩) | (go_at_call 95; (with_reducible refine (c95 _ _ _ _).mono ?_); rintro e w' ⟨rfl, dd, oo, rfl⟩))
              refine bodyPost_ret (v := .tuple #[.agg #[.int .u64 (hK k), .int .u64 (lK k), .bool true, .bool (sK k), .string ⟨#[]⟩], .nilIface]) (by simp [results, Tryz.results153, go_sem, IntWalk.iteOmega, ↓IntWalk.iteOmega, cb0, cb1, cb2, cb3, cb4, hBl]) rfl ⟨rfl, Chg.plus_of (F := fun _ => False) (by (repeat (with_reducible refine Chg.plus ?_ _ _)); exact chg5 HC.out _ _ _ _ _) (fun _ _ => id)⟩

end Go.Proofs.YtmoabfpdlbngeaaGreatDoor
end
