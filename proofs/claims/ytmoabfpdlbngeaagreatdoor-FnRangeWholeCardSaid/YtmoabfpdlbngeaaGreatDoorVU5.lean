/-
  Part of the proofs on the laws of pub-addresssets: joined texts (U5, U6).
-/
import Derived.Test.YtmoabfpdlbngeaaGreatDoorVU2
section
namespace Go.Proofs.YtmoabfpdlbngeaaGreatDoor
open Go.RowKit
set_option maxHeartbeats 400000
set_option linter.unusedVariables false
set_option linter.unusedSimpArgs false
/-- How many groups from i on are 0 (fuel f). -/
def zl (g : Nat → Nat) : Nat → Nat → Nat
  | 0, _ => 0
  | f + 1, i => if g i = 0 then 1 + zl g f (i + 1) else 0
def zend (g : Nat → Nat) (i : Nat) : Nat := i + zl g (8 - i) i
theorem zl_spec (g : Nat → Nat) : ∀ f i, zl g f i ≤ f ∧ (∀ q, i ≤ q → q < i + zl g f i → g q = 0) ∧ (zl g f i = f ∨ g (i + zl g f i) ≠ 0)
  | 0, i => ⟨Nat.le_refl _, fun q h1 h2 => by simp [zl] at h2; omega, .inl rfl⟩
  | f + 1, i => by
    obtain ⟨a, b, c⟩ := zl_spec g f (i + 1)
    by_cases h : g i = 0
    · have e : zl g (f + 1) i = 1 + zl g f (i + 1) := by simp [zl, h]
      rw [e]
      refine ⟨by omega, fun q h1 h2 => ?_, ?_⟩
      · by_cases hq : q = i
        · rw [hq]; exact h
        · exact b q (by omega) (by omega)
      · rcases c with c | c
        · exact .inl (by omega)
        · exact .inr (by rw [show i + (1 + zl g f (i + 1)) = i + 1 + zl g f (i + 1) by omega]; exact c)
    · have e : zl g (f + 1) i = 0 := by simp [zl, h]
      rw [e]
      exact ⟨by omega, fun q h1 h2 => by omega, .inr h⟩
theorem zend_uniq (g : Nat → Nat) (i j : Nat) (hi : i ≤ 8) (h1 : i ≤ j) (h2 : j ≤ 8) (h3 : ∀ q, i ≤ q → q < j → g q = 0) (h4 : j = 8 ∨ g j ≠ 0) : j = zend g i := by
  obtain ⟨a, b, c⟩ := zl_spec g (8 - i) i
  unfold zend
  rcases Nat.lt_trichotomy j (i + zl g (8 - i) i) with h | h | h
  · have := b j h1 h
    rcases h4 with h4 | h4
    · omega
    · exact absurd this h4
  · exact h
  · rcases c with c | c
    · omega
    · exact absurd (h3 _ (by omega) h) c
theorem zend_le (g : Nat → Nat) (i : Nat) (hi : i ≤ 8) : i ≤ zend g i ∧ zend g i ≤ 8 := by
  have := (zl_spec g (8 - i) i).1
  unfold zend
  omega
/-- The longest run of zeros so far, as appendTo6 keeps it. -/
def stB (g : Nat → Nat) : Nat → Nat × Nat
  | 0 => (255, 255)
  | i + 1 => if 2 ≤ zend g i - i ∧ (stB g i).2 - (stB g i).1 < zend g i - i then (i, zend g i) else stB g i
theorem stB_in (g : Nat → Nat) : ∀ i, i ≤ 8 → stB g i = (255, 255) ∨ ((stB g i).1 < i ∧ (stB g i).1 + 2 ≤ (stB g i).2 ∧ (stB g i).2 ≤ 8)
  | 0, _ => .inl rfl
  | i + 1, h => by
    have ih := stB_in g i (by omega)
    have hz := zend_le g i (by omega)
    unfold stB
    split
    · rename_i c
      right
      show i < i + 1 ∧ i + 2 ≤ zend g i ∧ zend g i ≤ 8
      omega
    · rcases ih with q | q
      · exact .inl q
      · right; omega
/-- Groups from a on, n of them, with colons between. -/
def jg (g : Nat → Nat) (a : Nat) : Nat → List Nat
  | 0 => []
  | n + 1 => (if n = 0 then [] else jg g a n ++ [58]) ++ hexB (g (a + n))
theorem jg_len (g : Nat → Nat) (a : Nat) : ∀ n, (jg g a n).length ≤ 5 * n
  | 0 => by simp [jg]
  | n + 1 => by
    have ih := jg_len g a n
    have h := hexB_len (g (a + n))
    unfold jg
    split
    · simp; omega
    · simp; omega
def txt6 (g : Nat → Nat) : List Nat := if (stB g 8).1 < 8 then jg g 0 (stB g 8).1 ++ [58, 58] ++ jg g (stB g 8).2 (8 - (stB g 8).2) else jg g 0 8
/-- The text so far at the head of the second loop. -/
def outT (g : Nat → Nat) (s e i : Nat) : List Nat := if s < i then jg g 0 s ++ [58, 58] ++ jg g e (i - e) else jg g 0 i
theorem outT_len (g : Nat → Nat) (s e i : Nat) (hi : i ≤ 8) : (outT g s e i).length ≤ 82 := by
  unfold outT
  split
  · have h1 := jg_len g 0 s
    have h2 := jg_len g e (i - e)
    simp only [List.length_append, List.length_cons, List.length_nil]
    omega
  · have h1 := jg_len g 0 i
    omega
theorem outT_next (g : Nat → Nat) (s e i : Nat) (h0 : 0 < i) (hs : i ≠ s) (he : s < i → e < i) : outT g s e (i + 1) = outT g s e i ++ [58] ++ hexB (g i) := by
  unfold outT
  by_cases h : s < i
  · rw [if_pos (by omega), if_pos h, show i + 1 - e = (i - e) + 1 by omega]
    have := he h
    conv => lhs; rw [jg]
    rw [if_neg (by omega), show e + (i - e) = i by omega]
    simp only [List.append_assoc]
  · rw [if_neg (by omega), if_neg h]
    conv => lhs; rw [jg]
    rw [if_neg (by omega), Nat.zero_add]
theorem outT_zero (g : Nat → Nat) (s e : Nat) (hs : 0 ≠ s) : outT g s e 1 = hexB (g 0) := by
  unfold outT
  rw [if_neg (by omega)]
  simp [jg]
theorem outT_at (g : Nat → Nat) (s e : Nat) : outT g s e s = jg g 0 s := by
  unfold outT
  rw [if_neg (by omega)]
theorem outT_skip (g : Nat → Nat) (s e : Nat) (h : s < e) : outT g s e (e + 1) = jg g 0 s ++ [58, 58] ++ hexB (g e) := by
  unfold outT
  rw [if_pos (by omega), show e + 1 - e = 0 + 1 by omega, jg]
  simp
theorem outT_end (g : Nat → Nat) : outT g (stB g 8).1 (stB g 8).2 8 = txt6 g := rfl
theorem outT_brk (g : Nat → Nat) (s : Nat) (h : stB g 8 = (s, 8)) (hs : s < 8) : jg g 0 s ++ [58, 58] = txt6 g := by
  unfold txt6
  rw [h, if_pos hs]
  simp [jg]
theorem neq76 (s : Bool) (h : s = true) (w : World) : (binOp .neq 76 (.agg #[.bool true, .bool s, .string ⟨#[]⟩]) (.agg #[.bool true, .bool true, .string ⟨#[]⟩])).run Tryz.prog w = .ok (.bool false) w := by
  subst h
  simp [go_sem]
theorem Rd.newB2 (W : World) (b d : Nat) : Rd layB (W.alloc (.cells #[.int .u8 ((b : Nat) : Int), .int .u8 ((d : Nat) : Int)] 5)) (.slice (some ⟨W.heap.size, 0, none⟩) 2 2) 2 (fun j => if j = 0 then b else d) :=
  (OwnDV.new (D := layB) (E := 5) W _ 2 (fun j => if j = 0 then b else d) (by rfl) (by omega)).rd
/-- APPEND of two bytes. -/
theorem appT2 {ops : Array Oper} {rest : List Oper} {o : Oper} {a : Act} {Q : Exit → Act → World → Prop} {w w0 : World} {v0 : Value} (hgd : o.guard = none) (s x : Operand) (ho : o.op = .call { callee := .builtin .append, args := #[s, x], argTypes := #[22, 22] })
    (v : Value) (l : List Nat) (hs : a.eval s = v) (R : TxR w0 w v0 v l) (b d : Nat) (hr : Rd layB w (a.eval x) 2 (fun j => if j = 0 then b else d)) (hl : l.length ≤ 900000000)
    (hK : ∀ p n c w3, Hid (TxR w0 w3 v0 (.slice p n c) (l ++ [b, d])) → wpList Tryz.prog ops Q rest (a.put o.dst (.slice p n c)) w3) : wpList Tryz.prog ops Q (o :: rest) a w :=
  appD hgd s x 22 1 infoB under22 (by omega) ho v l.length _ hs R.txt 2 (fun j => if j = 0 then b else d) hr (by omega) fun p c w3 hO hC hat => hK p (l.length + 2) c w3 (R.trans ⟨hC, Txt.app (l2 := [b, d]) hO.out (fun i hi => by
    match i, hi with
    | 0, _ => rfl
    | 1, _ => rfl), by
    rcases hat.out with q | q
    · exact .inl q
    · exact .inr ⟨_, q, Nat.le_refl _⟩⟩)
set_option maxRecDepth 100000 in
set_option maxHeartbeats 4000000 in
theorem c150 (p : Option Addr) (n c : Nat) (l : List Nat) (hl : l.length ≤ 900) (k : Nat) (o : okK k) (hs : sK k = true) (w : World) (H : Txt w (.slice p n c) l) : Calls Tryz.prog 150 #[.agg #[.int .u64 (hK k), .int .u64 (lK k), .bool true, .bool (sK k), .string ⟨#[]⟩], .slice p n c] w fun e w' => ∃ p' n' c', e = .returned (.slice p' n' c') ∧ Hid (TxR w w' (.slice p n c) (.slice p' n' c') (l ++ txt6 (g6 k))) := by
  have HS : Hid (TxR w (w.alloc (.cells #[.int .u64 (hK k), .int .u64 (lK k), .bool true, .bool (sK k), .string ⟨#[]⟩] 78)) (.slice p n c) (.slice p n c) l) := TxR.start H ((Chg.refl _ _).alloc _)
  have H0 : Hid (TxR (w.alloc (.cells #[.int .u64 (hK k), .int .u64 (lK k), .bool true, .bool (sK k), .string ⟨#[]⟩] 78)) (w.alloc (.cells #[.int .u64 (hK k), .int .u64 (lK k), .bool true, .bool (sK k), .string ⟨#[]⟩] 78)) (.slice p n c) (.slice p n c) l) := TxR.start HS.out.txt (Chg.refl _ _)
  have BX : Hid (∀ w' v' l', TxR (w.alloc (.cells #[.int .u64 (hK k), .int .u64 (lK k), .bool true, .bool (sK k), .string ⟨#[]⟩] 78)) w' (.slice p n c) v' l' → BoxK w' w.heap.size k) := fun w' v' l' R => BoxK.chg (BoxK.new w k) R.chg (fun e => by have := OwnDV.lt H e; omega)
  clear H

  have BY : Hid (∀ w', Chg (fun _ => False) (w.alloc (.cells #[.int .u64 (hK k), .int .u64 (lK k), .bool true, .bool (sK k), .string ⟨#[]⟩] 78)) w' → BoxK w' w.heap.size k) := fun w' C => BoxK.chg (BoxK.new w k) C id
  have HSIX : Hid (sK k = true) := hs
  clear hs
  go_enter Tryz.func150, Tryz.ntmps150

  go_wp2_with fail
  go_loopw [5, 6, 7] (fun t5 t6 t7 wr => ∃ i : Nat, t7 = .int .u8 ((i : Nat) : Int) ∧ t5 = .int .u8 (((stB (g6 k) i).1 : Nat) : Int) ∧ t6 = .int .u8 (((stB (g6 k) i).2 : Nat) : Int) ∧ i ≤ 8 ∧ Hid (Chg (fun _ => False) (w.alloc (.cells #[.int .u64 (hK k), .int .u64 (lK k), .bool true, .bool (sK k), .string ⟨#[]⟩] 78)) wr))
    (fun _ _ t7 _ => 8 - (intOf t7).toNat)
  case atStart => exact ⟨0, rfl, rfl, rfl, Nat.zero_le _, Hid.mk' (by (repeat (with_reducible first | exact Chg.refl _ _ | refine Chg.plus ?_ _ _ | refine Chg.alloc ?_ _ | refine Chg.drew ?_)))⟩
  case round =>
    obtain ⟨i, rfl, rfl, rfl, hi, X⟩ := hrel
    obtain ⟨W0, rfl⟩ : ∃ x, x = wr := ⟨_, rfl⟩
    obtain ⟨cb0, cb1, cb2, cb3, cb4, hBl⟩ := BY.out _ X.out
    by_cases hlt : i < 8
    · obtain ⟨s, hsv⟩ : ∃ s, (stB (g6 k) i).1 = s := ⟨_, rfl⟩
      obtain ⟨e, hev⟩ : ∃ e, (stB (g6 k) i).2 = e := ⟨_, rfl⟩
      have hin := stB_in (g6 k) i hi
      have HSE : Hid (stB (g6 k) i = (s, e)) := by unfold Hid; rw [← hsv, ← hev]
      rw [hsv, hev]
      have hse : (s = 255 ∧ e = 255) ∨ (s < i ∧ s + 2 ≤ e ∧ e ≤ 8) := by
        rw [HSE.out] at hin
        rcases hin with q | q
        · left; simpa using q
        · exact .inr q
      have zi8 : decide ((i : Int) < 8) = true := decide_eq_true (by omega)
      clear hsv hev hin
      go_wp2_with fail
      go_loopw [8] (fun t8 wx => ∃ j : Nat, t8 = .int .u8 ((j : Nat) : Int) ∧ i ≤ j ∧ j ≤ 8 ∧ Hid (Chg (fun _ => False) (w.alloc (.cells #[.int .u64 (hK k), .int .u64 (lK k), .bool true, .bool (sK k), .string ⟨#[]⟩] 78)) wx ∧ ∀ q, i ≤ q → q < j → g6 k q = 0))
        (fun t8 _ => 8 - (intOf t8).toNat)
      case atStart => exact ⟨i, rfl, Nat.le_refl _, hi, X.out, fun q h1 h2 => by omega⟩
      case round =>
        clear cb0 cb1 cb2 cb3 cb4 hBl
        obtain ⟨j, rfl, hij, hj, Y⟩ := hrel
        obtain ⟨W1, rfl⟩ : ∃ x, x = wr := ⟨_, rfl⟩
        obtain ⟨cb0, cb1, cb2, cb3, cb4, hBl⟩ := BY.out _ Y.out.1
        have fin : (j = 8 ∨ g6 k j ≠ 0) → j = zend (g6 k) i := fun q => zend_uniq (g6 k) i j hi hij hj Y.out.2 q
        by_cases hj8 : j < 8
        · by_cases hg : g6 k j = 0
          · have hg1 : (((g6 k j : Nat) : Int) == 0) = true := by rw [hg]; rfl
            clear fin
            go_wp2_with (first | (go_at_call 173; (with_reducible refine (c173 k o j (by omega) _).mono ?_); rintro e w' ⟨rfl, dd, oo, rfl⟩))
            go_roundw
            case rel => exact ⟨j + 1, by go_num, by omega, by omega, Y.out.1.trans (by (repeat (with_reducible first | exact Chg.refl _ _ | refine Chg.plus ?_ _ _ | refine Chg.alloc ?_ _ | refine Chg.drew ?_))), fun q h1 h2 => by
              by_cases e : q = j
              · rw [e]; exact hg
              · exact Y.out.2 q h1 (by omega)⟩
            case measure => simp [intOf]; omega
          · have hg1 : (((g6 k j : Nat) : Int) == 0) = false := by rw [beq_eq_false_iff_ne]; omega
            have hz := fin (.inr hg)
            clear fin
            by_cases c1 : 2 ≤ j - i
            · have y1 : decide ((2 : Int) ≤ (j : Int) - (i : Int)) = true := decide_eq_true (by omega)
              by_cases c2 : e - s < j - i
              · have y2 : decide ((e : Int) - (s : Int) < (j : Int) - (i : Int)) = true := decide_eq_true (by omega)
                have HST : Hid (stB (g6 k) (i + 1) = (i, j)) := by
                  show (if _ then _ else _) = _
                  rw [← hz, HSE.out, if_pos ⟨c1, c2⟩]
                clear hz
                go_wp2_with (first | (go_at_call 173; (with_reducible refine (c173 k o j (by omega) _).mono ?_); rintro e w' ⟨rfl, dd, oo, rfl⟩))
                go_roundw
                case rel => exact ⟨i + 1, by go_num, by rw [HST.out], by rw [HST.out], by omega, Hid.mk' (Y.out.1.trans (by (repeat (with_reducible first | exact Chg.refl _ _ | refine Chg.plus ?_ _ _ | refine Chg.alloc ?_ _ | refine Chg.drew ?_))))⟩
                case measure => simp [intOf]; omega

              · have y2 : decide ((e : Int) - (s : Int) < (j : Int) - (i : Int)) = false := decide_eq_false (by omega)
                have HST : Hid (stB (g6 k) (i + 1) = (s, e)) := by
                  show (if _ then _ else _) = _
                  rw [← hz, HSE.out, if_neg (fun q => c2 q.2)]
                clear hz
                go_wp2_with (first | (go_at_call 173; (with_reducible refine (c173 k o j (by omega) _).mono ?_); rintro e w' ⟨rfl, dd, oo, rfl⟩))
                go_roundw
                case rel => exact ⟨i + 1, by go_num, by rw [HST.out], by rw [HST.out], by omega, Hid.mk' (Y.out.1.trans (by (repeat (with_reducible first | exact Chg.refl _ _ | refine Chg.plus ?_ _ _ | refine Chg.alloc ?_ _ | refine Chg.drew ?_))))⟩
                case measure => simp [intOf]; omega

            · have y1 : decide ((2 : Int) ≤ (j : Int) - (i : Int)) = false := decide_eq_false (by omega)
              have HST : Hid (stB (g6 k) (i + 1) = (s, e)) := by
                show (if _ then _ else _) = _
                rw [← hz, HSE.out, if_neg (fun q => c1 q.1)]
              clear hz
              go_wp2_with (first | (go_at_call 173; (with_reducible refine (c173 k o j (by omega) _).mono ?_); rintro e w' ⟨rfl, dd, oo, rfl⟩))
              go_roundw
              case rel => exact ⟨i + 1, by go_num, by rw [HST.out], by rw [HST.out], by omega, Hid.mk' (Y.out.1.trans (by (repeat (with_reducible first | exact Chg.refl _ _ | refine Chg.plus ?_ _ _ | refine Chg.alloc ?_ _ | refine Chg.drew ?_))))⟩
              case measure => simp [intOf]; omega


        · obtain rfl : j = 8 := by omega
          have hz := fin (.inl rfl)
          clear fin
          by_cases c1 : 2 ≤ 8 - i
          · have y1 : decide ((2 : Int) ≤ (8 : Int) - (i : Int)) = true := decide_eq_true (by omega)
            by_cases c2 : e - s < 8 - i
            · have y2 : decide ((e : Int) - (s : Int) < (8 : Int) - (i : Int)) = true := decide_eq_true (by omega)
              have HST : Hid (stB (g6 k) (i + 1) = (i, 8)) := by
                show (if _ then _ else _) = _
                rw [← hz, HSE.out, if_pos ⟨c1, c2⟩]
              clear hz
              go_wp2_with fail
              go_roundw
              case rel => exact ⟨i + 1, by go_num, by rw [HST.out], by rw [HST.out], by omega, Hid.mk' (Y.out.1.trans (by (repeat (with_reducible first | exact Chg.refl _ _ | refine Chg.plus ?_ _ _ | refine Chg.alloc ?_ _ | refine Chg.drew ?_))))⟩
              case measure => simp [intOf]; omega

            · have y2 : decide ((e : Int) - (s : Int) < (8 : Int) - (i : Int)) = false := decide_eq_false (by omega)
              have HST : Hid (stB (g6 k) (i + 1) = (s, e)) := by
                show (if _ then _ else _) = _
                rw [← hz, HSE.out, if_neg (fun q => c2 q.2)]
              clear hz
              go_wp2_with fail
              go_roundw
              case rel => exact ⟨i + 1, by go_num, by rw [HST.out], by rw [HST.out], by omega, Hid.mk' (Y.out.1.trans (by (repeat (with_reducible first | exact Chg.refl _ _ | refine Chg.plus ?_ _ _ | refine Chg.alloc ?_ _ | refine Chg.drew ?_))))⟩
              case measure => simp [intOf]; omega

          · have y1 : decide ((2 : Int) ≤ (8 : Int) - (i : Int)) = false := decide_eq_false (by omega)
            have HST : Hid (stB (g6 k) (i + 1) = (s, e)) := by
              show (if _ then _ else _) = _
              rw [← hz, HSE.out, if_neg (fun q => c1 q.1)]
            clear hz
            go_wp2_with fail
            go_roundw
            case rel => exact ⟨i + 1, by go_num, by rw [HST.out], by rw [HST.out], by omega, Hid.mk' (Y.out.1.trans (by (repeat (with_reducible first | exact Chg.refl _ _ | refine Chg.plus ?_ _ _ | refine Chg.alloc ?_ _ | refine Chg.drew ?_))))⟩
            case measure => simp [intOf]; omega


    · have hi8 : i = 8 := by omega
      have zi8 : decide ((i : Int) < 8) = false := decide_eq_false (by omega)
      obtain ⟨s, hsv⟩ : ∃ s, (stB (g6 k) i).1 = s := ⟨_, rfl⟩
      obtain ⟨e, hev⟩ : ∃ e, (stB (g6 k) i).2 = e := ⟨_, rfl⟩
      have hin := stB_in (g6 k) 8 (Nat.le_refl _)
      have HSE : Hid (stB (g6 k) 8 = (s, e)) := by unfold Hid; rw [← hsv, ← hev, hi8]
      have HEND : Hid (outT (g6 k) s e 8 = txt6 (g6 k)) := by unfold Hid; rw [← hsv, ← hev, hi8]; exact outT_end _
      rw [hsv, hev]
      have hse : (s = 255 ∧ e = 255) ∨ (s < 8 ∧ s + 2 ≤ e ∧ e ≤ 8) := by
        rw [HSE.out] at hin
        rcases hin with q | q
        · left; simpa using q
        · exact .inr q
      clear hsv hev hin
      have zi9 : ¬ i < 8 := by omega
      clear hi8
      have HR0 : Hid (TxR (w.alloc (.cells #[.int .u64 (hK k), .int .u64 (lK k), .bool true, .bool (sK k), .string ⟨#[]⟩] 78)) W0 (.slice p n c) (.slice p n c) l) := H0.out.step X.out
      clear X
      go_wp2_with fail
      go_loopw [1, 10] (fun t1 t10 wr => ∃ (i : Nat) (p1 : Option Addr) (n1 c1 : Nat), t10 = .int .u8 ((i : Nat) : Int) ∧ t1 = .slice p1 n1 c1 ∧ i ≤ 8 ∧ (s < i → e < i) ∧ Hid (TxR (w.alloc (.cells #[.int .u64 (hK k), .int .u64 (lK k), .bool true, .bool (sK k), .string ⟨#[]⟩] 78)) wr (.slice p n c) (.slice p1 n1 c1) (l ++ outT (g6 k) s e i)))
        (fun _ t10 _ => 8 - (intOf t10).toNat)
      case atStart => exact ⟨0, p, n, c, rfl, rfl, Nat.zero_le _, fun q => by omega, Hid.mk' (by rw [show outT (g6 k) s e 0 = [] from rfl, List.append_nil]; exact HR0.out)⟩
      case round =>
        clear cb0 cb1 cb2 cb3 cb4 hBl
        obtain ⟨i, p1, n1, c1, rfl, rfl, hj8, hei, Y⟩ := hrel
        obtain ⟨W1, rfl⟩ : ∃ x, x = wr := ⟨_, rfl⟩
        obtain ⟨cb0, cb1, cb2, cb3, cb4, hBl⟩ := BX.out _ _ _ Y.out
        obtain ⟨T, hT⟩ : ∃ T, outT (g6 k) s e i = T := ⟨_, rfl⟩
        have HT : Hid _ := hT
        have hTl : T.length ≤ 82 := by rw [← hT]; exact outT_len _ _ _ _ hj8
        rw [hT] at Y
        clear hT
        by_cases hlt2 : i < 8
        · by_cases his : i = s
          · subst his
            have hse2 : i + 2 ≤ e ∧ e ≤ 8 := by omega
            have z2 : ((i : Int) == (i : Int)) = true := by simp
            have HT2 : Hid (T = jg (g6 k) 0 i) := by unfold Hid; rw [← HT.out]; exact outT_at _ _ _
            by_cases he8 : e < 8
            · have z3 : decide ((8 : Int) ≤ (e : Int)) = false := decide_eq_false (by omega)
              go_wp2_with (first | (at_builtin; refine appT2 rfl (.tmp 47) (.tmp 48) rfl _ (l ++ T) rfl (Y.out.step (by (repeat (with_reducible first | exact Chg.refl _ _ | refine Chg.plus ?_ _ _ | refine Chg.alloc ?_ _ | refine Chg.drew ?_)))) 58 58 (Rd.newB2 _ 58 58) (by simp; omega) ?_; intro p3 n3 c3 w3 H1; obtain ⟨cb0, cb1, cb2, cb3, cb4, hBl⟩ := BX.out _ _ _ H1.out) | (go_at_call 173; (with_reducible refine (c173 k o e (by omega) _).mono ?_); rintro e w' ⟨rfl, dd, oo, rfl⟩))
              refine (c174 _ _ _ (l ++ T ++ [58, 58]) (by simp; omega) (g6 k e) (g6_lt k e) _ (Txt.chg (F := fun _ => False) H1.out.txt (by (repeat (with_reducible first | exact Chg.refl _ _ | refine Chg.plus ?_ _ _ | refine Chg.alloc ?_ _ | refine Chg.drew ?_))) (fun _ _ => id))).mono ?_
              rintro e' w' ⟨p', n', c', rfl, Z⟩
              have H2 := Hid.mk' ((H1.out.step (by (repeat (with_reducible first | exact Chg.refl _ _ | refine Chg.plus ?_ _ _ | refine Chg.alloc ?_ _ | refine Chg.drew ?_)))).trans Z.out)
              clear Z
              go_wp2_with fail
              go_roundw
              case rel => exact ⟨e + 1, p', n', c', by go_num, rfl, by omega, fun _ => by omega, Hid.mk' (by rw [outT_skip _ _ _ (by omega), ← HT2.out, ← List.append_assoc, ← List.append_assoc]; exact H2.out)⟩
              case measure => simp [intOf]; omega
            · obtain rfl : e = 8 := by omega
              go_wp2_with (first | (at_builtin; refine appT2 rfl (.tmp 47) (.tmp 48) rfl _ (l ++ T) rfl (Y.out.step (by (repeat (with_reducible first | exact Chg.refl _ _ | refine Chg.plus ?_ _ _ | refine Chg.alloc ?_ _ | refine Chg.drew ?_)))) 58 58 (Rd.newB2 _ 58 58) (by simp; omega) ?_; intro p3 n3 c3 w3 H1; obtain ⟨cb0, cb1, cb2, cb3, cb4, hBl⟩ := BX.out _ _ _ H1.out))
              obtain ⟨cb0, cb1, cb2, cb3, cb4, hBl⟩ := BX.out _ _ _ H1.out
              go_wp2_with fail
              have hne76 := fun w => neq76 (sK k) HSIX.out w
              refine wp_region_plus (by kernel_rfl) (by kernel_rfl) ?_
              repeat (go_big_quiet_step (first | (go_at_call 132; (with_reducible exact Calls.plus_of (c132 _)))))
              refine wpQuiet_nil ?_
              intro _ hq
              obtain ⟨⟨dq, oq⟩, rfl⟩ := hq
              go_wp2_with fail
              go_ret
              refine ⟨_, _, _, rfl, ?_⟩
              have := H1.out

              rw [HT2.out, List.append_assoc, outT_brk _ _ HSE.out (by omega)] at this
              exact Hid.mk' (HS.out.trans (TxR.step this (by (repeat (with_reducible first | exact Chg.refl _ _ | refine Chg.plus ?_ _ _ | refine Chg.alloc ?_ _ | refine Chg.drew ?_)))))
          · have z2 : ((i : Int) == (s : Int)) = false := by rw [beq_eq_false_iff_ne]; omega
            by_cases hi0 : 0 < i
            · have z3 : decide ((0 : Int) < (i : Int)) = true := decide_eq_true (by omega)
              have HTN : Hid (outT (g6 k) s e (i + 1) = T ++ [58] ++ hexB (g6 k i)) := by unfold Hid; rw [← HT.out]; exact outT_next _ _ _ _ hi0 his hei
              go_wp2_with (first | (at_builtin; refine appT rfl (.tmp 55) (.tmp 56) rfl _ (l ++ T) rfl (Y.out.step (by (repeat (with_reducible first | exact Chg.refl _ _ | refine Chg.plus ?_ _ _ | refine Chg.alloc ?_ _ | refine Chg.drew ?_)))) _ (58) (Rd.newB _ _) rfl (by first | omega | (simp; omega)) ?_; intro p3 n3 c3 w3 H1; obtain ⟨cb0, cb1, cb2, cb3, cb4, hBl⟩ := BX.out _ _ _ H1.out) | (go_at_call 173; (with_reducible refine (c173 k o i (by omega) _).mono ?_); rintro e w' ⟨rfl, dd, oo, rfl⟩))
              refine (c174 _ _ _ (l ++ T ++ [58]) (by simp; omega) (g6 k i) (g6_lt k i) _ (Txt.chg (F := fun _ => False) H1.out.txt (by (repeat (with_reducible first | exact Chg.refl _ _ | refine Chg.plus ?_ _ _ | refine Chg.alloc ?_ _ | refine Chg.drew ?_))) (fun _ _ => id))).mono ?_
              rintro e' w' ⟨p', n', c', rfl, Z⟩
              have H2 := Hid.mk' ((H1.out.step (by (repeat (with_reducible first | exact Chg.refl _ _ | refine Chg.plus ?_ _ _ | refine Chg.alloc ?_ _ | refine Chg.drew ?_)))).trans Z.out)
              clear Z
              go_wp2_with fail
              go_roundw
              case rel => exact ⟨i + 1, p', n', c', by go_num, rfl, by omega, fun q => by omega, Hid.mk' (by rw [HTN.out, ← List.append_assoc, ← List.append_assoc]; exact H2.out)⟩
              case measure => simp [intOf]; omega
            · have z3 : decide ((0 : Int) < (i : Int)) = false := decide_eq_false (by omega)
              have HT0 : Hid (T = [] ∧ outT (g6 k) s e (i + 1) = hexB (g6 k i)) := by
                have h0 : i = 0 := by omega
                refine ⟨by rw [← HT.out, h0]; rfl, ?_⟩
                rw [h0]
                exact outT_zero _ _ _ (by omega)
              go_wp2_with (first | (go_at_call 173; (with_reducible refine (c173 k o i (by omega) _).mono ?_); rintro e w' ⟨rfl, dd, oo, rfl⟩))
              refine (c174 _ _ _ (l ++ T) (by simp; omega) (g6 k i) (g6_lt k i) _ (Txt.chg (F := fun _ => False) Y.out.txt (by (repeat (with_reducible first | exact Chg.refl _ _ | refine Chg.plus ?_ _ _ | refine Chg.alloc ?_ _ | refine Chg.drew ?_))) (fun _ _ => id))).mono ?_
              rintro e' w' ⟨p', n', c', rfl, Z⟩
              have H2 := Hid.mk' ((Y.out.step (by (repeat (with_reducible first | exact Chg.refl _ _ | refine Chg.plus ?_ _ _ | refine Chg.alloc ?_ _ | refine Chg.drew ?_)))).trans Z.out)
              clear Z
              go_wp2_with fail
              go_roundw
              case rel => exact ⟨i + 1, p', n', c', by go_num, rfl, by omega, fun q => by omega, Hid.mk' (by rw [HT0.out.2]; have := H2.out; rw [HT0.out.1, List.append_nil] at this; exact this)⟩
              case measure => simp [intOf]; omega
        · have HI8 : Hid (T = txt6 (g6 k)) := by
            have h8 : i = 8 := by omega
            unfold Hid
            rw [← HT.out, h8]
            exact HEND.out
          have z2 : decide ((i : Int) < 8) = false := decide_eq_false (by omega)
          obtain ⟨cb0, cb1, cb2, cb3, cb4, hBl⟩ := BX.out _ _ _ Y.out
          go_wp2_with fail
          have hne76 := fun w => neq76 (sK k) HSIX.out w
          refine wp_region_plus (by kernel_rfl) (by kernel_rfl) ?_
          repeat (go_big_quiet_step (first | (go_at_call 132; (with_reducible exact Calls.plus_of (c132 _)))))
          refine wpQuiet_nil ?_
          intro _ hq
          obtain ⟨⟨dq, oq⟩, rfl⟩ := hq
          go_wp2_with fail
          go_ret
          refine ⟨_, _, _, rfl, ?_⟩
          have := Y.out

          rw [HI8.out] at this
          exact Hid.mk' (HS.out.trans (TxR.step this (by (repeat (with_reducible first | exact Chg.refl _ _ | refine Chg.plus ?_ _ _ | refine Chg.alloc ?_ _ | refine Chg.drew ?_)))))
end Go.Proofs.YtmoabfpdlbngeaaGreatDoor
end

section
namespace Go.Proofs.YtmoabfpdlbngeaaGreatDoor
open Go.RowKit
set_option maxHeartbeats 400000
set_option linter.unusedVariables false
set_option linter.unusedSimpArgs false
/-- Bytes as a string. -/
def toB (l : List Nat) : ByteArray := ⟨(l.map UInt8.ofNat).toArray⟩
theorem toB_app (l m : List Nat) : toB (l ++ m) = toB l ++ toB m := by
  unfold toB
  rw [List.map_append]
  apply ByteArray.ext
  simp
/-- The text of an address (none that is one of 4 bytes within one of 16). -/
def txtK (k : Nat) : List Nat := if sK k then txt6 (g6 k) else txt4 k
/-- No address of 4 bytes within one of 16. -/
def Pure6 (k : Nat) : Prop := sK k = true → ¬ (hN k = 0 ∧ lN k / 4294967296 = 65535)
theorem dig_lt (q : Nat) (h : q < 16) : dig q < 128 := by unfold dig; split <;> omega
def LtB (l : List Nat) : Prop := ∀ b, b ∈ l → b < 128
theorem LtB.app {l m : List Nat} (a : LtB l) (b : LtB m) : LtB (l ++ m) := fun x h => (List.mem_append.1 h).elim (a x) (b x)
theorem decB_lt (x : Nat) (h : x < 256) : LtB (decB x) := by
  have h1 := dig_lt (x / 100) (by omega)
  have h2 := dig_lt (x / 10 % 10) (by omega)
  have h3 := dig_lt (x % 10) (by omega)
  unfold decB
  intro b hb
  split at hb
  · simp at hb; omega
  · split at hb <;> simp at hb <;> omega
theorem hexB_lt (x : Nat) (h : x < 65536) : LtB (hexB x) := by
  have h1 := dig_lt (x / 4096) (by omega)
  have h2 := dig_lt (x / 256 % 16) (by omega)
  have h3 := dig_lt (x / 16 % 16) (by omega)
  have h4 := dig_lt (x % 16) (by omega)
  unfold hexB
  intro b hb
  split at hb
  · simp at hb; omega
  · split at hb
    · simp at hb; omega
    · split at hb <;> simp at hb <;> omega
theorem jg_lt (g : Nat → Nat) (hg : ∀ i, g i < 65536) (a : Nat) : ∀ n, LtB (jg g a n)
  | 0 => fun b h => by simp [jg] at h
  | n + 1 => by
    have ih := jg_lt g hg a n
    have h := hexB_lt (g (a + n)) (hg _)
    unfold jg
    split
    · exact LtB.app (fun b h => by simp at h) h
    · exact (ih.app (fun b h => by simp at h; omega)).app h
theorem lt46 : LtB [46] := fun b h => by simp at h; omega
theorem txt4_lt (k : Nat) : LtB (txt4 k) :=
  ((((((decB_lt _ (b4_lt k 0)).app lt46).app (decB_lt _ (b4_lt k 1))).app lt46).app (decB_lt _ (b4_lt k 2))).app lt46).app (decB_lt _ (b4_lt k 3))
theorem txt6_lt (k : Nat) : LtB (txt6 (g6 k)) := by
  unfold txt6
  split
  · exact ((jg_lt _ (g6_lt k) _ _).app (fun b h => by simp at h; omega)).app (jg_lt _ (g6_lt k) _ _)
  · exact jg_lt _ (g6_lt k) _ _
theorem txt4_len (k : Nat) : (txt4 k).length ≤ 15 := by
  have h0 := decB_len (b4 k 0)
  have h1 := decB_len (b4 k 1)
  have h2 := decB_len (b4 k 2)
  have h3 := decB_len (b4 k 3)
  unfold txt4
  simp only [List.length_append, List.length_cons, List.length_nil]
  omega
/-- string(b) of a row that reads l. -/
theorem conv_txt {w : World} {p : Option Addr} {n c : Nat} {l : List Nat} (H : Txt w (.slice p n c) l) (hp : l ≠ []) (hl : LtB l) : (convert 22 9 (.slice p n c)).run Tryz.prog w = .ok (.string (toB l)) w := by
  rcases H with ⟨e, h0⟩ | ⟨G, cap, e, R⟩
  · exact absurd (List.eq_nil_of_length_eq_zero h0) hp
  · simp only [Value.slice.injEq] at e
    obtain ⟨rfl, rfl, rfl⟩ := e
    have := run_convert_bytes_back (P := Tryz.prog) w 22 9 5 ⟨G, 0, none⟩ c (l.map UInt8.ofNat) under22 Tryz.underlying5 Tryz.underlying9 (fun j hj => by
      have hj' : j < l.length := by simpa using hj
      have h := R.row j hj' 0 _ rfl
      have hb : l[j] < 128 := hl _ (List.getElem_mem hj')
      rw [show layB.c = 1 from rfl, Nat.mul_one, Nat.add_zero] at h
      rw [Addr.add_lit, h]
      simp [List.getD_eq_getElem?_getD, List.getElem?_eq_getElem hj']
      omega)
    rwa [List.length_map] at this
theorem hexB_ne (x : Nat) : hexB x ≠ [] := by
  unfold hexB
  split
  · simp
  · split
    · simp
    · split <;> simp
theorem jg_ne (g : Nat → Nat) (a n : Nat) : jg g a (n + 1) ≠ [] := by
  unfold jg
  intro h
  exact hexB_ne _ (List.append_eq_nil_iff.1 h).2
theorem txt6_ne (g : Nat → Nat) : txt6 g ≠ [] := by
  unfold txt6
  split
  · simp
  · exact jg_ne g 0 7
theorem txt4_ne (k : Nat) : txt4 k ≠ [] := by
  unfold txt4
  simp
theorem Txt.empty {w : World} {v : Value} {f : Nat → Nat} (H : OwnDV layB 5 w v 0 f) : Txt w v [] := OwnDV.congr H (fun j hj => absurd hj (Nat.not_lt_zero _))
theorem eq76 (s t : Bool) (w : World) : (binOp .eql 76 (.agg #[.bool true, .bool s, .string ⟨#[]⟩]) (.agg #[.bool true, .bool t, .string ⟨#[]⟩])).run Tryz.prog w = .ok (.bool (s == t)) w := by
  cases s <;> cases t <;> simp [go_sem]
set_option maxHeartbeats 2000000 in
theorem c148f (k : Nat) (o : okK k) (hs : sK k = true) (hp : Pure6 k) (w : World) : Calls Tryz.prog 148 #[.agg #[.int .u64 (hK k), .int .u64 (lK k), .bool true, .bool (sK k), .string ⟨#[]⟩]] w fun e w' => e = .returned (.bool false) ∧ Plus w w' := by
  have h := hp hs
  rw [hK_N, lK_N, hs]
  generalize hN k = H at *
  generalize lN k = L at *
  clear hp o hs
  by_cases h0 : H = 0
  · subst h0
    have h1 : ((L : Int) / 4294967296 == 65535) = false := by rw [beq_eq_false_iff_ne]; omega
    go_enter Tryz.func148, Tryz.ntmps148

    go_wp2_with (first | (go_at_call 133; (with_reducible refine (c133 _ _ _ _).mono ?_); rintro e w' ⟨rfl, dd, oo, rfl⟩))
    go_ret
    exact ⟨by simp, by repeat (first | exact Plus.refl _ | refine Plus.alloc ?_ _ | refine Plus.plus ?_ _ _ | refine Plus.drew ?_ | refine Plus.drewN ?_ _)⟩
  · have h1 : ((H : Int) == 0) = false := by rw [beq_eq_false_iff_ne]; omega
    go_enter Tryz.func148, Tryz.ntmps148

    go_wp2_with (first | (go_at_call 133; (with_reducible refine (c133 _ _ _ _).mono ?_); rintro e w' ⟨rfl, dd, oo, rfl⟩))
    go_ret
    exact ⟨by simp, by repeat (first | exact Plus.refl _ | refine Plus.alloc ?_ _ | refine Plus.plus ?_ _ _ | refine Plus.drew ?_ | refine Plus.drewN ?_ _)⟩
set_option maxRecDepth 100000 in
set_option maxHeartbeats 4000000 in
theorem c113 (k : Nat) (o : okK k) (hp : Pure6 k) (w : World) : Calls Tryz.prog 113 #[.agg #[.int .u64 (hK k), .int .u64 (lK k), .bool true, .bool (sK k), .string ⟨#[]⟩]] w fun e w' => e = .returned (.string (toB (txtK k))) ∧ Plus w w' := by
  have HP : Hid (Pure6 k) := hp
  clear hp
  have BY : Hid (∀ w', Chg (fun _ => False) (w.alloc (.cells #[.int .u64 (hK k), .int .u64 (lK k), .bool true, .bool (sK k), .string ⟨#[]⟩] 78)) w' → BoxK w' w.heap.size k) := fun w' C => BoxK.chg (BoxK.new w k) C id
  obtain ⟨x, hx⟩ : ∃ x, (sK k == false) = x := ⟨_, rfl⟩
  have HX : Hid _ := hx
  have hne := fun w => (eq76 (sK k) false w).trans (by rw [hx])
  clear hx
  go_enter Tryz.func113, Tryz.ntmps113

  go_wp2_with (first | (go_at_call 89; (with_reducible refine (k89 k _).mono ?_); rintro e w' ⟨rfl, dd, oo, rfl⟩))
  refine wp_region_plus (by kernel_rfl) (by kernel_rfl) ?_
  repeat (go_big_quiet_step (first | (go_at_call 128; (with_reducible exact Calls.plus_of (c128 _)))))
  refine wpQuiet_nil ?_
  intro _ hq
  obtain ⟨⟨dq, oq⟩, rfl⟩ := hq
  cases x
  · have hs : Hid (sK k = true) := by have := HX.out; unfold Hid; cases h : sK k <;> rw [h] at this <;> first | rfl | cases this
    clear hne
    go_wp2_with (first | (at_make; refine makeD rfl _ _ 22 1 infoB under22 (by omega) rfl 46 rfl rfl (by omega) (fun i => 0) ?_) | (go_at_call 148; (with_reducible refine (c148f k o hs.out HP.out _).mono ?_); rintro e w' ⟨rfl, dd, oo, rfl⟩))
    intro w3 P3 hlt3 hG
    obtain ⟨d3, o3, rfl⟩ := P3
    obtain ⟨cb0, cb1, cb2, cb3, cb4, hBl⟩ := BY.out _ (Chg.plus (by (repeat (with_reducible first | exact Chg.refl _ _ | refine Chg.plus ?_ _ _ | refine Chg.alloc ?_ _ | refine Chg.drew ?_))) d3 o3)
    have HG : Hid _ := hG
    clear hG
    go_wp2_with fail
    with_reducible refine (c150 _ _ _ [] (by simp) k o hs.out _ (Txt.empty HG.out)).mono ?_
    rintro e w' ⟨p', n', c', rfl, Z⟩
    have HTX := Z.out.txt
    rw [List.nil_append] at HTX
    have HPL : Hid (Plus w w') := Hid.mk' ((Chg.trans' (a := w) (by (repeat (with_reducible first | exact Chg.refl _ _ | refine Chg.plus ?_ _ _ | refine Chg.alloc ?_ _ | refine Chg.drew ?_))) Z.out.chg (fun q hq e => by simp only [AtV, Value.ownBlock, Option.some.injEq] at e; omega)).plus_of (fun _ _ => id))
    have hcv := conv_txt HTX (txt6_ne _) (txt6_lt k)
    have HTXK : Hid (txtK k = txt6 (g6 k)) := by unfold Hid txtK; rw [hs.out]; rfl
    clear Z HTX
    go_wp2_with fail
    go_ret
    exact ⟨by rw [HTXK.out]; rfl, HPL.out⟩
  · have hs : Hid (sK k = false) := by have := HX.out; unfold Hid; cases h : sK k <;> rw [h] at this <;> first | rfl | cases this
    clear hne
    go_wp2_with (first | (at_make; refine makeD rfl _ _ 22 1 infoB under22 (by omega) rfl 15 rfl rfl (by omega) (fun i => 0) ?_))
    intro w3 P3 hlt3 hG
    obtain ⟨d3, o3, rfl⟩ := P3
    obtain ⟨cb0, cb1, cb2, cb3, cb4, hBl⟩ := BY.out _ (Chg.plus (by (repeat (with_reducible first | exact Chg.refl _ _ | refine Chg.plus ?_ _ _ | refine Chg.alloc ?_ _ | refine Chg.drew ?_))) d3 o3)
    have HG : Hid _ := hG
    clear hG
    go_wp2_with fail
    with_reducible refine (c147 _ _ _ [] (by simp) k o _ (Txt.empty HG.out)).mono ?_
    rintro e w' ⟨p', n', c', rfl, Z⟩
    have HTX := Z.out.txt
    rw [List.nil_append] at HTX
    have HPL : Hid (Plus w w') := Hid.mk' ((Chg.trans' (a := w) (by (repeat (with_reducible first | exact Chg.refl _ _ | refine Chg.plus ?_ _ _ | refine Chg.alloc ?_ _ | refine Chg.drew ?_))) Z.out.chg (fun q hq e => by simp only [AtV, Value.ownBlock, Option.some.injEq] at e; omega)).plus_of (fun _ _ => id))
    have hcv := conv_txt HTX (txt4_ne _) (txt4_lt k)
    have HTXK : Hid (txtK k = txt4 k) := by unfold Hid txtK; rw [hs.out]; rfl
    clear Z HTX
    go_wp2_with fail
    go_ret
    exact ⟨by rw [HTXK.out]; rfl, HPL.out⟩
theorem strT (a b : List Nat) (ha : a.length ≤ 1000) (hb : b.length ≤ 1000) (w : World) : (Op.stringOp .add (toB a) (toB b)).run Tryz.prog w = .ok (.string (toB (a ++ b))) w := by
  rw [run_string_add_sum w _ _ (by simp [toB, ByteArray.size]; omega), toB_app]
theorem txt6_len (g : Nat → Nat) : (txt6 g).length ≤ 82 := by
  rw [← outT_end]
  exact outT_len _ _ _ _ (Nat.le_refl _)
theorem txtK_len (k : Nat) : (txtK k).length ≤ 82 := by
  unfold txtK
  split
  · exact txt6_len _
  · have := txt4_len k; omega
set_option maxRecDepth 100000 in
set_option maxHeartbeats 2000000 in
/-- IPRange.String. -/
theorem c63 (r : Nat × Nat) (o : okR r) (h1 : Pure6 r.1) (h2 : Pure6 r.2) (w : World) : Calls Tryz.prog 63 #[.agg #[.int .u64 (hK r.1), .int .u64 (lK r.1), .bool true, .bool (sK r.1), .string ⟨#[]⟩, .int .u64 (hK r.2), .int .u64 (lK r.2), .bool true, .bool (sK r.2), .string ⟨#[]⟩]] w fun e w' => e = .returned (.string (toB (txtK r.1 ++ 45 :: txtK r.2))) ∧ Plus w w' := by
  have HO : Hid _ := o
  have l1 := txtK_len r.1
  have l2 := txtK_len r.2
  have q1 : ∀ w, (Op.stringOp .add (toB (txtK r.1)) ⟨#[45]⟩).run Tryz.prog w = .ok (.string (toB (txtK r.1 ++ [45]))) w := fun w => strT (txtK r.1) [45] (by omega) (by simp) w
  have q2 : ∀ w, (Op.stringOp .add (toB (txtK r.1 ++ [45])) (toB (txtK r.2))).run Tryz.prog w = .ok (.string (toB (txtK r.1 ++ [45] ++ txtK r.2))) w := fun w => strT _ _ (by simp; omega) (by omega) w
  go_enter Tryz.func63, Tryz.ntmps63

  go_wp2_with (first | (go_at_call 107; (with_reducible refine (k107 r o _).mono ?_); rintro e w' ⟨rfl, dd, oo, rfl⟩))
  refine wp_region_plus (by kernel_rfl) (by kernel_rfl) ?_
  repeat (go_big_quiet_step (first | (go_at_call 113; (with_reducible exact Calls.plus_of (c113 r.1 HO.out.a h1 _))) | (go_at_call 113; (with_reducible exact Calls.plus_of (c113 r.2 HO.out.b h2 _)))))
  refine wpQuiet_nil ?_
  intro _ hq
  obtain ⟨⟨dq, oq⟩, rfl⟩ := hq
  go_wp2_with fail
  go_ret
  exact ⟨rfl, by repeat (first | exact Plus.refl _ | refine Plus.alloc ?_ _ | refine Plus.plus ?_ _ _ | refine Plus.drew ?_ | refine Plus.drewN ?_ _)⟩
end Go.Proofs.YtmoabfpdlbngeaaGreatDoor
end
