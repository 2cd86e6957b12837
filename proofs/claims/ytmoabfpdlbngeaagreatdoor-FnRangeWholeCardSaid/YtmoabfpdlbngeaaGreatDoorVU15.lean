/-
  Part of the proofs on the laws of pub-addresssets: joined texts (U15, U16, U17).
-/
import Derived.Test.YtmoabfpdlbngeaaGreatDoorVU13
section
namespace Go.Proofs.YtmoabfpdlbngeaaGreatDoor
open Go.RowKit
set_option maxHeartbeats 400000
set_option linter.unusedVariables false
set_option linter.unusedSimpArgs false
theorem toB_size (l : List Nat) : (toB l).size = l.length := by
  unfold toB
  show ((l.map UInt8.ofNat).toArray).size = _
  simp
theorem toB_ix (l : List Nat) (hl : LtB l) (i : Nat) (hi : i < l.length) (k : IntKind) (w : World) : (Instr.index 9 (.string (toB l)) (.int k ((i : Nat) : Int))).run Tryz.prog w = .ok (.int .u8 ((l.getD i 0 : Nat) : Int)) w := by
  have hs := toB_size l
  rw [run_index_string w 9 (toB l) k _ Tryz.underlying9, dif_pos ⟨by omega, by omega⟩]
  have hb : l[i] < 128 := hl _ (List.getElem_mem hi)
  have e : l.getD i 0 = l[i] := by simp [List.getD_eq_getElem?_getD, List.getElem?_eq_getElem hi]
  have : ((toB l)[((i : Nat) : Int).toNat]'(by omega)).toNat = l[i] := by
    show (((l.map UInt8.ofNat).toArray)[((i : Nat) : Int).toNat]'(by simpa using hi)).toNat = l[i]
    simp
    omega
  rw [e, this]
theorem toB_ext (l : List Nat) (a b : Nat) : (toB l).extract a b = toB ((l.drop a).take (b - a)) := by
  unfold toB
  rw [ByteArray.extract_mk, List.map_take, List.map_drop]
theorem toB_from (l : List Nat) (a : Nat) (ha : a ≤ l.length) (w : World) : (Instr.slice 9 (.string (toB l)) (some (.int .i64 ((a : Nat) : Int))) none none).run Tryz.prog w = .ok (.string (toB (l.drop a))) w := by
  have hs := toB_size l
  rw [run_slice_string_from_if w 9 (toB l) .i64 _ Tryz.underlying9, if_pos ⟨by omega, by omega⟩, Int.toNat_natCast, toB_ext, hs, List.take_of_length_le (by rw [List.length_drop]; exact Nat.le_refl _)]
theorem toB_to (l : List Nat) (a : Nat) (ha : a ≤ l.length) (w : World) : (Instr.slice 9 (.string (toB l)) none (some (.int .i64 ((a : Nat) : Int))) none).run Tryz.prog w = .ok (.string (toB (l.take a))) w := by
  have hs := toB_size l
  rw [run_slice_string_to_if w 9 (toB l) .i64 _ Tryz.underlying9, if_pos ⟨by omega, by omega⟩, Int.toNat_natCast, toB_ext, List.drop_zero, Nat.sub_zero]
theorem toB_mid (l : List Nat) (a b : Nat) (ha : a ≤ b) (hb : b ≤ l.length) (w : World) : (Instr.slice 9 (.string (toB l)) (some (.int .i64 ((a : Nat) : Int))) (some (.int .i64 ((b : Nat) : Int))) none).run Tryz.prog w = .ok (.string (toB ((l.drop a).take (b - a)))) w := by
  have hs := toB_size l
  rw [run_slice_string w 9 (toB l) .i64 .i64 _ _ Tryz.underlying9 (by omega) (by omega) (by omega), Int.toNat_natCast, Int.toNat_natCast, toB_ext]
theorem toB_len (l : List Nat) (hn : l.length < 1000) (w : World) (ty : TypeId) : (Builtin.len_ #[9] ty #[.string (toB l)]).run Tryz.prog w = .ok (.int .i64 ((l.length : Nat) : Int)) w := by
  rw [run_len_string w 9 ty (toB l) Tryz.underlying9, toB_size]
  rfl
set_option maxHeartbeats 2000000 in
theorem c177 (l : List Nat) (hl : LtB l) (hn : l.length < 1000) (c : Nat) (hc : ∀ b, b ∈ l → b ≠ c) (w : World) : Calls Tryz.prog 177 #[.string (toB l), .int .u8 ((c : Nat) : Int)] w fun e w' => e = .returned (.int .i64 (-1)) ∧ Plus w w' := by
  have hlen := toB_len l hn
  have hsz := toB_size l
  have FX : Hid (∀ i, i < l.length → (∀ k w, (Instr.index 9 (.string (toB l)) (.int k ((i : Nat) : Int))).run Tryz.prog w = .ok (.int .u8 ((l.getD i 0 : Nat) : Int)) w) ∧ l.getD i 0 ≠ c) := fun i hi => ⟨fun k w => toB_ix l hl i hi k w, by
    have e : l.getD i 0 = l[i] := by simp [List.getD_eq_getElem?_getD, List.getElem?_eq_getElem hi]
    rw [e]; exact hc _ (List.getElem_mem hi)⟩
  clear hc hl
  generalize toB l = S at *
  generalize l.length = n at *
  generalize l.getD = G at *
  go_enter Tryz.func177, Tryz.ntmps177

  go_wp2_with fail
  go_loopw [5] (fun t5 wr => ∃ i : Nat, t5 = .int .i64 ((i : Nat) : Int) ∧ i ≤ n ∧ Hid (Plus w wr))
    (fun t5 _ => n - (intOf t5).toNat)
  case atStart => exact ⟨0, rfl, Nat.zero_le _, by repeat (first | exact Plus.refl _ | refine Plus.alloc ?_ _ | refine Plus.plus ?_ _ _ | refine Plus.drew ?_ | refine Plus.drewN ?_ _)⟩
  case round =>
    obtain ⟨i, rfl, hi, dd, oo, rfl⟩ := hrel
    by_cases hlt : i < n
    · obtain ⟨hx, hne⟩ := FX.out i hlt
      have z0 : decide ((i : Int) < (n : Int)) = true := decide_eq_true (by omega)
      have z1 : (((G i 0 : Nat) : Int) == ((c : Nat) : Int)) = false := by rw [beq_eq_false_iff_ne]; omega
      clear hne
      go_wp2_with fail
      go_roundw
      case rel => exact ⟨i + 1, by go_num, by omega, by repeat (first | exact Plus.refl _ | refine Plus.alloc ?_ _ | refine Plus.plus ?_ _ _ | refine Plus.drew ?_ | refine Plus.drewN ?_ _)⟩
      case measure => simp [intOf]; omega
    · have z0 : decide ((i : Int) < (n : Int)) = false := decide_eq_false (by omega)
      go_wp2_with fail
      go_ret
      exact ⟨rfl, by repeat (first | exact Plus.refl _ | refine Plus.alloc ?_ _ | refine Plus.plus ?_ _ _ | refine Plus.drew ?_ | refine Plus.drewN ?_ _)⟩
end Go.Proofs.YtmoabfpdlbngeaaGreatDoor
end

section
namespace Go.Proofs.YtmoabfpdlbngeaaGreatDoor
open Go.RowKit
set_option maxHeartbeats 400000
set_option linter.unusedVariables false
set_option linter.unusedSimpArgs false
/-- A block that is an array of n bytes. -/
def ArrB (w : World) (B T n : Nat) (f : Nat → Nat) : Prop := ∃ cs, w.heap[B]? = some (.cells cs T (0, 0)) ∧ cs.size = n ∧ ∀ t, t < n → cs[t]? = some (.int .u8 ((f t : Nat) : Int))
theorem ArrB.chg {F : Nat → Prop} {w w' : World} {B T n : Nat} {f : Nat → Nat} (H : ArrB w B T n f) (C : Chg F w w') (hF : ¬ F B) : ArrB w' B T n f := by
  obtain ⟨cs, h1, h2, h3⟩ := H
  exact ⟨cs, heap_chg C h1 hF, h2, h3⟩
theorem ArrB.at {w : World} {B T n : Nat} {f : Nat → Nat} (H : ArrB w B T n f) (q : Nat) (hq : q < n) : w.cell? ⟨B, q, none⟩ = some (.int .u8 ((f q : Nat) : Int)) ∧ w.frozen? ⟨B, q, none⟩ = false ∧ B < w.heap.size := by
  obtain ⟨cs, h1, h2, h3⟩ := H
  refine ⟨?_, fr_at h1 q, (Array.getElem?_eq_some_iff.1 h1).1⟩
  rw [cell_of_row w B q cs T (0, 0) h1, h3 q hq]
theorem ArrB.set {w : World} {B T n : Nat} {f : Nat → Nat} (H : ArrB w B T n f) (q : Nat) (b : Nat) : ArrB (w.setCell ⟨B, q, none⟩ (.int .u8 ((b : Nat) : Int))) B T n (fun i => if i = q then b else f i) := by
  obtain ⟨cs, h1, h2, h3⟩ := H
  refine ⟨cs.setIfInBounds q (.int .u8 ((b : Nat) : Int)), ?_, by simpa using h2, fun t ht => ?_⟩
  · rw [setCell_eq_setRow w B q _ T (0, 0) _ h1]
    exact setRow_heap w B _ _ T (0, 0) h1
  · rw [Array.getElem?_setIfInBounds]
    by_cases e : t = q
    · rw [if_pos e.symm, if_pos (by omega)]
      show _ = some (Value.int .u8 (((if t = q then b else f t) : Nat) : Int))
      rw [if_pos e]
    · rw [if_neg (fun h => e h.symm)]
      show _ = some (Value.int .u8 (((if t = q then b else f t) : Nat) : Int))
      rw [if_neg e]
      exact h3 t ht
theorem ArrB.congr {w : World} {B T n : Nat} {f g : Nat → Nat} (H : ArrB w B T n f) (h : ∀ i, i < n → f i = g i) : ArrB w B T n g := by
  obtain ⟨cs, h1, h2, h3⟩ := H
  exact ⟨cs, h1, h2, fun t ht => by rw [h3 t ht, h t ht]⟩
/-- The value of the first digits. -/
def pvD (D : List Nat) : Nat → Nat
  | 0 => 0
  | j + 1 => pvD D j * 10 + D.getD j 0 - 48
set_option maxRecDepth 100000 in
theorem dec_all : ∀ x : Fin 256, 1 ≤ (decB x.1).length ∧ (decB x.1).length ≤ 3 ∧ (∀ j : Fin 3, j.1 < (decB x.1).length → 48 ≤ (decB x.1).getD j.1 0 ∧ (decB x.1).getD j.1 0 ≤ 57 ∧ pvD (decB x.1) (j.1 + 1) ≤ 255) ∧ pvD (decB x.1) (decB x.1).length = x.1 ∧ (1 < (decB x.1).length → pvD (decB x.1) 1 ≠ 0) := by
  decide +kernel
structure DecF (D : List Nat) (x : Nat) : Prop where
  one : 1 ≤ D.length
  three : D.length ≤ 3
  dg : ∀ j, j < D.length → 48 ≤ D.getD j 0 ∧ D.getD j 0 ≤ 57 ∧ pvD D (j + 1) ≤ 255
  fin : pvD D D.length = x
  nz : 1 < D.length → pvD D 1 ≠ 0
theorem decF (x : Nat) (hx : x < 256) : DecF (decB x) x := by
  obtain ⟨a, b, c, d, e⟩ := dec_all ⟨x, hx⟩
  exact ⟨a, b, fun j hj => c ⟨j, Nat.lt_of_lt_of_le hj b⟩ hj, d, e⟩
theorem DecF.le {D : List Nat} {x : Nat} (H : DecF D x) (j : Nat) (hj : j ≤ D.length) : pvD D j ≤ 255 := by
  cases j with
  | zero => exact Nat.zero_le _
  | succ j => exact (H.dg j hj).2.2
theorem getD_mid (A D R : List Nat) (j : Nat) (hj : j < D.length) : (A ++ (D ++ R)).getD (A.length + j) 0 = D.getD j 0 := by
  rw [getD_app, if_neg (by omega), Nat.add_sub_cancel_left, getD_app, if_pos hj]
theorem getD_sep (A D R : List Nat) (c : Nat) : (A ++ (D ++ c :: R)).getD (A.length + D.length) 0 = c := by
  rw [getD_app, if_neg (by omega), Nat.add_sub_cancel_left, getD_app, if_neg (by omega), Nat.sub_self]
  rfl
/-- Where a field of the text of 4 bytes begins. -/
def dOff (x : Nat → Nat) : Nat → Nat
  | 0 => 0
  | p + 1 => dOff x p + (decB (x p)).length + 1
theorem t4_facts (k : Nat) : (∀ p, p < 4 → ∀ j, j < (decB (b4 k p)).length → dOff (b4 k) p + j < (txt4 k).length ∧ (txt4 k).getD (dOff (b4 k) p + j) 0 = (decB (b4 k p)).getD j 0) ∧ (∀ p, p < 3 → dOff (b4 k) p + (decB (b4 k p)).length + 1 < (txt4 k).length ∧ (txt4 k).getD (dOff (b4 k) p + (decB (b4 k p)).length) 0 = 46) ∧ dOff (b4 k) 3 + (decB (b4 k 3)).length = (txt4 k).length := by
  have e3 := (decF _ (b4_lt k 3)).one
  have e2 := (decF _ (b4_lt k 2)).one
  have e1 := (decF _ (b4_lt k 1)).one
  have e0 := (decF _ (b4_lt k 0)).one
  refine ⟨fun p hp j hj => ?_, fun p hp => ?_, ?_⟩
  · rcases (show p = 0 ∨ p = 1 ∨ p = 2 ∨ p = 3 by omega) with rfl | rfl | rfl | rfl
    · refine ⟨by simp [dOff, txt4]; omega, ?_⟩
      rw [← getD_mid [] (decB (b4 k 0)) ([46] ++ decB (b4 k 1) ++ [46] ++ decB (b4 k 2) ++ [46] ++ decB (b4 k 3)) j hj]
      rw [show txt4 k = ([] : List Nat) ++ (decB (b4 k 0) ++ ([46] ++ decB (b4 k 1) ++ [46] ++ decB (b4 k 2) ++ [46] ++ decB (b4 k 3))) by simp [txt4], show dOff (b4 k) 0 = ([] : List Nat).length by simp [dOff]]
    · refine ⟨by simp [dOff, txt4]; omega, ?_⟩
      rw [← getD_mid (decB (b4 k 0) ++ [46]) (decB (b4 k 1)) ([46] ++ decB (b4 k 2) ++ [46] ++ decB (b4 k 3)) j hj]
      rw [show txt4 k = (decB (b4 k 0) ++ [46]) ++ (decB (b4 k 1) ++ ([46] ++ decB (b4 k 2) ++ [46] ++ decB (b4 k 3))) by simp [txt4], show dOff (b4 k) 1 = ((decB (b4 k 0) ++ [46]) : List Nat).length by simp [dOff]; try omega]
    · refine ⟨by simp [dOff, txt4]; omega, ?_⟩
      rw [← getD_mid (decB (b4 k 0) ++ [46] ++ decB (b4 k 1) ++ [46]) (decB (b4 k 2)) ([46] ++ decB (b4 k 3)) j hj]
      rw [show txt4 k = (decB (b4 k 0) ++ [46] ++ decB (b4 k 1) ++ [46]) ++ (decB (b4 k 2) ++ ([46] ++ decB (b4 k 3))) by simp [txt4], show dOff (b4 k) 2 = ((decB (b4 k 0) ++ [46] ++ decB (b4 k 1) ++ [46]) : List Nat).length by simp [dOff]; try omega]
    · refine ⟨by simp [dOff, txt4]; omega, ?_⟩
      rw [← getD_mid (decB (b4 k 0) ++ [46] ++ decB (b4 k 1) ++ [46] ++ decB (b4 k 2) ++ [46]) (decB (b4 k 3)) [] j hj]
      rw [show txt4 k = (decB (b4 k 0) ++ [46] ++ decB (b4 k 1) ++ [46] ++ decB (b4 k 2) ++ [46]) ++ (decB (b4 k 3) ++ []) by simp [txt4], show dOff (b4 k) 3 = ((decB (b4 k 0) ++ [46] ++ decB (b4 k 1) ++ [46] ++ decB (b4 k 2) ++ [46]) : List Nat).length by simp [dOff]; try omega]
  · rcases (show p = 0 ∨ p = 1 ∨ p = 2 by omega) with rfl | rfl | rfl
    · refine ⟨by simp [dOff, txt4]; omega, ?_⟩
      rw [← getD_sep [] (decB (b4 k 0)) (decB (b4 k 1) ++ [46] ++ decB (b4 k 2) ++ [46] ++ decB (b4 k 3)) 46]
      rw [show txt4 k = ([] : List Nat) ++ (decB (b4 k 0) ++ 46 :: (decB (b4 k 1) ++ [46] ++ decB (b4 k 2) ++ [46] ++ decB (b4 k 3))) by simp [txt4], show dOff (b4 k) 0 = ([] : List Nat).length by simp [dOff]]
    · refine ⟨by simp [dOff, txt4]; omega, ?_⟩
      rw [← getD_sep (decB (b4 k 0) ++ [46]) (decB (b4 k 1)) (decB (b4 k 2) ++ [46] ++ decB (b4 k 3)) 46]
      rw [show txt4 k = (decB (b4 k 0) ++ [46]) ++ (decB (b4 k 1) ++ 46 :: (decB (b4 k 2) ++ [46] ++ decB (b4 k 3))) by simp [txt4], show dOff (b4 k) 1 = ((decB (b4 k 0) ++ [46]) : List Nat).length by simp [dOff]; try omega]
    · refine ⟨by simp [dOff, txt4]; omega, ?_⟩
      rw [← getD_sep (decB (b4 k 0) ++ [46] ++ decB (b4 k 1) ++ [46]) (decB (b4 k 2)) (decB (b4 k 3)) 46]
      rw [show txt4 k = (decB (b4 k 0) ++ [46] ++ decB (b4 k 1) ++ [46]) ++ (decB (b4 k 2) ++ 46 :: (decB (b4 k 3))) by simp [txt4], show dOff (b4 k) 2 = ((decB (b4 k 0) ++ [46] ++ decB (b4 k 1) ++ [46]) : List Nat).length by simp [dOff]; try omega]
  · simp [dOff, txt4]; omega
theorem toB_get (l : List Nat) (hl : LtB l) (i : Nat) (h : i < (toB l).size) : ((toB l)[i]'h).toNat = l.getD i 0 := by
  have hi : i < l.length := by rw [toB_size] at h; exact h
  have hb : l[i] < 128 := hl _ (List.getElem_mem hi)
  have e : l.getD i 0 = l[i] := by simp [List.getD_eq_getElem?_getD, List.getElem?_eq_getElem hi]
  rw [e]
  show (((l.map UInt8.ofNat).toArray)[i]'(by simpa using hi)).toNat = l[i]
  simp
  omega
theorem toB_all (l : List Nat) (w : World) : (Instr.slice 9 (.string (toB l)) (some (.int .i64 0)) (some (.int .i64 ((l.length : Nat) : Int))) none).run Tryz.prog w = .ok (.string (toB l)) w := by
  have := toB_mid l 0 l.length (Nat.zero_le _) (Nat.le_refl _) w
  rw [List.drop_zero, Nat.sub_zero, List.take_length] at this
  exact this
set_option maxRecDepth 100000 in
set_option maxHeartbeats 4000000 in
theorem c176 (k : Nat) (B T : Nat) (f0 : Nat → Nat) (w : World) (H : ArrB w B T 4 f0) : Calls Tryz.prog 176 #[.string (toB (txt4 k)), .int .i64 0, .int .i64 (((txt4 k).length : Nat) : Int), .slice (some ⟨B, 0, none⟩) 4 4] w fun e w' => e = .returned .nilIface ∧ Hid (Chg (fun b => b = B) w w' ∧ ArrB w' B T 4 (b4 k)) := by
  have hn := txt4_len k
  have hlen := fun w ty => toB_len (txt4 k) (by omega) w ty
  have hsz := toB_size (txt4 k)
  have hall := toB_all (txt4 k)
  have TF := t4_facts k
  have FX : Hid (∀ i (h : i < (toB (txt4 k)).size), ((toB (txt4 k))[i]'h).toNat = (txt4 k).getD i 0) := toB_get (txt4 k) (txt4_lt k)
  have TFH : Hid _ := TF
  have DF : Hid (∀ p, DecF (decB (b4 k p)) (b4 k p)) := fun p => decF _ (b4_lt k p)
  have HA : Hid (ArrB w B T 4 f0) := H
  clear H TF
  generalize toB (txt4 k) = S at *
  generalize (txt4 k).length = n at *
  generalize (txt4 k).getD = G at *
  go_enter Tryz.func176, Tryz.ntmps176

  go_wp2_with fail
  go_loopw [9, 10, 11, 13] (fun t9 t10 t11 t13 wr => ∃ p j i v : Nat, t9 = .int .i64 ((v : Nat) : Int) ∧ t10 = .int .i64 ((p : Nat) : Int) ∧ t11 = .int .i64 ((j : Nat) : Int) ∧ t13 = .int .i64 ((i : Nat) : Int) ∧ p ≤ 3 ∧ Hid (i = dOff (b4 k) p + j ∧ j ≤ (decB (b4 k p)).length ∧ v = pvD (decB (b4 k p)) j ∧ Chg (fun b => b = B) w wr ∧ ∃ f, ArrB wr B T 4 f ∧ ∀ q, q < p → f q = b4 k q))
    (fun _ _ _ t13 _ => n - (intOf t13).toNat)
  case atStart => exact ⟨0, 0, 0, 0, rfl, rfl, rfl, rfl, Nat.zero_le _, rfl, Nat.zero_le _, rfl, by (repeat (with_reducible first | exact Chg.refl _ _ | refine Chg.plus ?_ _ _ | refine Chg.alloc ?_ _ | refine Chg.drew ?_)), f0, ArrB.chg (F := fun _ => False) HA.out (by (repeat (with_reducible first | exact Chg.refl _ _ | refine Chg.plus ?_ _ _ | refine Chg.alloc ?_ _ | refine Chg.drew ?_))) id, fun q h => by omega⟩
  case round =>
    obtain ⟨p, j, i, v, rfl, rfl, rfl, rfl, hp, X⟩ := hrel
    obtain ⟨W0, rfl⟩ : ∃ x, x = wr := ⟨_, rfl⟩
    have hi := X.out.1
    have hj := X.out.2.1
    have hv := X.out.2.2.1
    have D1 := DF.out p
    have hj3 : j ≤ 3 := by have := D1.three; omega
    have hv5 : v ≤ 255 := by rw [hv]; exact D1.le j hj
    by_cases hlt : j < (decB (b4 k p)).length
    · obtain ⟨hin, hg⟩ := TFH.out.1 p (by omega) j hlt
      rw [← hi] at hin hg
      have hx : ∀ h, (S[i]'h).toNat = G i 0 := FX.out i
      obtain ⟨g1, g2, g3⟩ := D1.dg j hlt
      have hnz : j = 1 → v ≠ 0 := fun e => by rw [hv, e]; exact D1.nz (by omega)
      have HV : Hid (v * 10 + G i 0 - 48 = pvD (decB (b4 k p)) (j + 1)) := by
        unfold Hid
        rw [hg, hv]; rfl
      rw [← hg] at g1 g2
      have g3' : v * 10 + G i 0 - 48 ≤ 255 := by rw [HV.out]; exact g3
      have z0 : decide ((i : Int) < (n : Int)) = true := decide_eq_true (by omega)
      have z1 : decide ((48 : Int) ≤ ((G i 0 : Nat) : Int)) = true := decide_eq_true (by omega)
      have z2 : decide (((G i 0 : Nat) : Int) ≤ 57) = true := decide_eq_true (by omega)
      have z3 : decide ((255 : Int) < (v : Int) * 10 + ((G i 0 : Nat) : Int) - 48) = false := decide_eq_false (by omega)
      clear hg hi hj hv D1 g3
      generalize hc : G i 0 = c at *
      by_cases h1 : j = 1
      · have y0 : ((j : Int) == 1) = true := by rw [beq_iff_eq]; omega
        have y1 : ((v : Int) == 0) = false := by rw [beq_eq_false_iff_ne]; have := hnz h1; omega
        clear hnz
        have HJ : Hid _ := h1
        clear h1
        go_wp2_with fail
        go_roundw
        case rel => exact ⟨p, j + 1, i + 1, v * 10 + c - 48, congrArg _ (by omega), rfl, by go_num, by go_num, hp, by have := X.out.1; omega, by omega, HV.out, X.out.2.2.2.1.trans (by (repeat (with_reducible first | exact Chg.refl _ _ | refine Chg.plus ?_ _ _ | refine Chg.alloc ?_ _ | refine Chg.drew ?_))), by
          obtain ⟨f, a, b⟩ := X.out.2.2.2.2
          exact ⟨f, ArrB.chg (F := fun _ => False) a (by (repeat (with_reducible first | exact Chg.refl _ _ | refine Chg.plus ?_ _ _ | refine Chg.alloc ?_ _ | refine Chg.drew ?_))) id, b⟩⟩
        case measure => simp [intOf]; omega
      · have y0 : ((j : Int) == 1) = false := by rw [beq_eq_false_iff_ne]; omega
        clear hnz
        go_wp2_with fail
        go_roundw
        case rel => exact ⟨p, j + 1, i + 1, v * 10 + c - 48, congrArg _ (by omega), rfl, by go_num, by go_num, hp, by have := X.out.1; omega, by omega, HV.out, X.out.2.2.2.1.trans (by (repeat (with_reducible first | exact Chg.refl _ _ | refine Chg.plus ?_ _ _ | refine Chg.alloc ?_ _ | refine Chg.drew ?_))), by
          obtain ⟨f, a, b⟩ := X.out.2.2.2.2
          exact ⟨f, ArrB.chg (F := fun _ => False) a (by (repeat (with_reducible first | exact Chg.refl _ _ | refine Chg.plus ?_ _ _ | refine Chg.alloc ?_ _ | refine Chg.drew ?_))) id, b⟩⟩
        case measure => simp [intOf]; omega
    · have hje : j = (decB (b4 k p)).length := by omega
      have hvx : v = b4 k p := by rw [hv, hje]; exact D1.fin
      have g0 := D1.one
      obtain ⟨f, fa, fq⟩ := X.out.2.2.2.2
      by_cases hp3 : p < 3
      · obtain ⟨hin, hg⟩ := TFH.out.2.1 p hp3
        rw [← hje, ← hi] at hin hg
        obtain ⟨i', rfl⟩ : ∃ i', i = i' + 1 := ⟨i - 1, by omega⟩
        obtain ⟨j', hj'⟩ : ∃ j', j = j' + 1 := ⟨j - 1, by omega⟩
        obtain ⟨hin', hg'⟩ := TFH.out.1 p (by omega) j' (by omega)
        have ei : dOff (b4 k) p + j' = i' := by omega
        rw [ei] at hin' hg'
        have gd := (D1.dg j' (by omega)).1
        rw [← hg'] at gd
        have hx : ∀ h, (S[i' + 1]'h).toNat = G (i' + 1) 0 := FX.out (i' + 1)
        have hx' : ∀ h, (S[i']'h).toNat = G i' 0 := FX.out i'
        rw [hg] at hx
        obtain ⟨c0, f1, hBl⟩ := fa.at p (by omega)
        have z0 : decide ((i' : Int) + 1 < (n : Int)) = true := decide_eq_true (by omega)
        have z1 : ((i' : Int) + 1 == 0) = false := by rw [beq_eq_false_iff_ne]; omega
        have z2 : ((i' : Int) + 1 == (n : Int) - 1) = false := by rw [beq_eq_false_iff_ne]; omega
        have z3 : (((G i' 0 : Nat) : Int) == 46) = false := by rw [beq_eq_false_iff_ne]; omega
        have z4 : ((p : Int) == 3) = false := by rw [beq_eq_false_iff_ne]; omega
        have HXX : Hid (i' + 1 + 1 = dOff (b4 k) (p + 1) + 0) := by unfold Hid; show _ = dOff (b4 k) p + (decB (b4 k p)).length + 1 + 0; omega
        have HS := fa.set p (b4 k p)
        have HSQ : Hid (ArrB (W0.setCell ⟨B, p, none⟩ (.int .u8 ((b4 k p : Nat) : Int))) B T 4 (fun i => if i = p then b4 k p else f i)) := HS
        have HFQ : Hid (∀ q, q < p + 1 → (if q = p then b4 k p else f q) = b4 k q) := fun q hq => by
          by_cases e : q = p
          · rw [if_pos e, e]
          · rw [if_neg e]; exact fq q (by omega)
        have hb5 := b4_lt k p
        have HVX : Hid _ := hvx
        have hvu : v < 256 := by omega
        clear hg hg' hi hj hv D1 gd fa fq HS hvx hje hj' ei hb5
        go_wp2_with fail
        go_roundw
        case rel => exact ⟨p + 1, 0, i' + 1 + 1, 0, rfl, by go_num, rfl, by go_num, by omega, HXX.out, Nat.zero_le _, rfl, X.out.2.2.2.1.setCell _ _ (fun _ => rfl), _, by
          have := HSQ.out
          rw [← HVX.out] at this
          exact this, by rw [HVX.out]; exact HFQ.out⟩
        case measure => simp [intOf]; omega
      · obtain rfl : p = 3 := by omega
        have hin := TFH.out.2.2
        rw [← hje, ← hi] at hin
        have hle : n ≤ i := by omega
        obtain ⟨c0, f1, hBl⟩ := fa.at 3 (by omega)
        have hvu : v < 256 := by omega
        have HS : Hid (ArrB (W0.setCell ⟨B, 3, none⟩ (.int .u8 ((v : Nat) : Int))) B T 4 (b4 k)) := (fa.set 3 v).congr (fun i hi => by
          show (if i = 3 then v else f i) = b4 k i
          by_cases e : i = 3
          · rw [if_pos e, e]; exact hvx
          · rw [if_neg e]; exact fq i (by omega))
        clear hi hj hv D1 fa fq hje hin hvx
        go_wp2_with fail
        go_ret
        exact ⟨rfl, X.out.2.2.2.1.setCell _ _ (fun _ => rfl), HS.out⟩
end Go.Proofs.YtmoabfpdlbngeaaGreatDoor
end

section
namespace Go.Proofs.YtmoabfpdlbngeaaGreatDoor
open Go.RowKit
set_option maxHeartbeats 400000
set_option linter.unusedVariables false
set_option linter.unusedSimpArgs false
theorem ArrB.new4 (w : World) (T B : Nat) (hB : B = w.heap.size) : ArrB (w.alloc (.cells #[.int .u8 0, .int .u8 0, .int .u8 0, .int .u8 0] T)) B T 4 (fun _ => 0) := by
  subst hB
  exact ⟨_, blk_new rfl, rfl, fun t ht => by match t, ht with | 0, _ => rfl | 1, _ => rfl | 2, _ => rfl | 3, _ => rfl⟩
theorem Chg.fresh {F : Nat → Prop} {w a b : World} (A : Chg (fun _ => False) w a) (B : Chg F a b) (h : ∀ q, q < w.heap.size → ¬ F q) : Chg (fun _ => False) w b :=
  ⟨B.os.trans A.os, B.tape.trans A.tape, B.output.trans A.output, Nat.le_trans A.size B.size, fun q hq _ => (B.block q (Nat.lt_of_lt_of_le hq A.size) (h q hq)).trans (A.block q hq id)⟩
/-- A block whose five cells are an address (or not one yet). -/
theorem box5 {W : World} {B : Nat} {a b c d e : Value} (h : W.heap[B]? = some (.cells #[a, b, c, d, e] 78 (0, 0))) : W.cell? ⟨B, 0, none⟩ = some a ∧ W.cell? ⟨B, 1, none⟩ = some b ∧ W.cell? ⟨B, 2, none⟩ = some c ∧ W.cell? ⟨B, 3, none⟩ = some d ∧ W.cell? ⟨B, 4, none⟩ = some e ∧ B < W.heap.size ∧ ∀ q, W.frozen? ⟨B, q, none⟩ = false := by
  have hz := rangeAt_of _ _ _ 78 h 0 [a, b, c, d, e] (fun j hj => by rw [Nat.zero_add, ← Array.getElem?_toList])
  exact ⟨hz 0 _ rfl, hz 1 _ rfl, hz 2 _ rfl, hz 3 _ rfl, hz 4 _ rfl, (Array.getElem?_eq_some_iff.1 h).1, fr_at h⟩
theorem chg5 {w W : World} (C : Chg (fun _ => False) w W) (v0 v1 v2 v3 v4 : Value) : Chg (fun _ => False) w (((((W.setCell ⟨w.heap.size, 0, none⟩ v0).setCell ⟨w.heap.size, 1, none⟩ v1).setCell ⟨w.heap.size, 2, none⟩ v2).setCell ⟨w.heap.size, 3, none⟩ v3).setCell ⟨w.heap.size, 4, none⟩ v4) :=
  ((((C.setCell _ _ (fun h => absurd h (Nat.lt_irrefl _))).setCell _ _ (fun h => absurd h (Nat.lt_irrefl _))).setCell _ _ (fun h => absurd h (Nat.lt_irrefl _))).setCell _ _ (fun h => absurd h (Nat.lt_irrefl _))).setCell _ _ (fun h => absurd h (Nat.lt_irrefl _))
theorem k93 (k : Nat) (o : okK k) (hs : sK k = false) (w : World) : Calls Tryz.prog 93 #[.agg #[.int .u8 ((b4 k 0 : Nat) : Int), .int .u8 ((b4 k 1 : Nat) : Int), .int .u8 ((b4 k 2 : Nat) : Int), .int .u8 ((b4 k 3 : Nat) : Int)]] w fun e w' => e = .returned (.agg #[.int .u64 (hK k), .int .u64 (lK k), .bool true, .bool (sK k), .string ⟨#[]⟩]) ∧ Plus w w' := by
  have h := c93 ((b4 k 0 : Nat) : Int) ((b4 k 1 : Nat) : Int) ((b4 k 2 : Nat) : Int) ((b4 k 3 : Nat) : Int) w
  have h0 := b4_lt k 0
  have h1 := b4_lt k 1
  have h2 := b4_lt k 2
  have h3 := b4_lt k 3
  rw [v4lo_eq _ _ _ _ (by omega) (by omega) (by omega) (by omega) (by omega) (by omega) (by omega) (by omega)] at h
  have hk : ¬ 8589934592 ≤ k := of_decide_eq_false hs
  have hk2 : k < 4294967296 := by rcases o with q | q <;> omega
  rw [hs, show hK k = 0 from if_neg hk, show lK k = 281470681743360 + (k : Int) from if_neg hk]
  have e : (281470681743360 : Int) + ((b4 k 0 : Nat) : Int) * 16777216 + ((b4 k 1 : Nat) : Int) * 65536 + ((b4 k 2 : Nat) : Int) * 256 + ((b4 k 3 : Nat) : Int) = 281470681743360 + (k : Int) := by
    clear h h0 h1 h2 h3 hs o
    unfold b4 lN
    rw [if_neg hk]
    simp only [Nat.mul_zero, Nat.mul_one, Nat.sub_zero]
    omega
  rw [e] at h
  exact h
set_option maxRecDepth 100000 in
set_option maxHeartbeats 4000000 in
theorem c152 (k : Nat) (o : okK k) (hs : sK k = false) (w : World) : Calls Tryz.prog 152 #[.string (toB (txt4 k))] w fun e w' => e = .returned (.tuple #[.agg #[.int .u64 (hK k), .int .u64 (lK k), .bool true, .bool (sK k), .string ⟨#[]⟩], .nilIface]) ∧ Plus w w' := by
  have hn := txt4_len k
  have hlen := fun w ty => toB_len (txt4 k) (by omega) w ty
  have HS : Hid (sK k = false) := hs
  have HO : Hid (okK k) := o
  have C176 := c176 k
  clear hs o
  generalize toB (txt4 k) = S at *
  generalize (txt4 k).length = n at *
  have CC : Hid (∀ B T f0 w (H : ArrB w B T 4 f0), Calls Tryz.prog 176 _ w _) := C176
  clear C176
  have BW : Hid (∀ q W', q = w.heap.size + 1 → Chg (fun b => b = q) ((w.alloc (.cells #[.int .u64 0, .int .u64 0, .bool false, .bool false, .string ⟨#[]⟩] 78)).alloc (.cells #[.int .u8 0, .int .u8 0, .int .u8 0, .int .u8 0] 101)) W' → W'.heap[w.heap.size]? = some (.cells #[.int .u64 0, .int .u64 0, .bool false, .bool false, .string ⟨#[]⟩] 78 (0, 0)) ∧ Chg (fun _ => False) w W') := fun q W' e C => by
    subst e
    refine ⟨heap_chg C (heap_chg (F := fun _ => False) ((Chg.refl _ _).alloc _) (blk_new rfl) id) (by omega), Chg.fresh (F := fun b => b = w.heap.size + 1) (by (repeat (with_reducible first | exact Chg.refl _ _ | refine Chg.plus ?_ _ _ | refine Chg.alloc ?_ _ | refine Chg.drew ?_))) C (fun q hq => by omega)⟩
  go_enter Tryz.func152, Tryz.ntmps152

  go_wp2_with (first | (go_at_call 176; (with_reducible refine (CC.out _ 101 (fun _ => 0) _ (ArrB.new4 _ _ _ (by simp))).mono ?_)))
  rintro e w' ⟨rfl, Z⟩
  obtain ⟨hb, HC⟩ := BW.out _ w' rfl Z.out.1
  have HCC : Hid _ := HC
  obtain ⟨ca0, ca1, ca2, ca3, ca4, hBl, hfr⟩ := box5 hb
  obtain ⟨d0, e0, hDl⟩ := Z.out.2.at 0 (by omega)
  obtain ⟨d1, e1, _⟩ := Z.out.2.at 1 (by omega)
  obtain ⟨d2, e2, _⟩ := Z.out.2.at 2 (by omega)
  obtain ⟨d3, e3, _⟩ := Z.out.2.at 3 (by omega)
  clear Z hb HC
  go_wp2_with (first | (go_at_call 93; (with_reducible refine (k93 k HO.out HS.out _).mono ?_); rintro e w' ⟨rfl, dd, oo, rfl⟩))
  refine bodyPost_ret (v := .tuple #[.agg #[.int .u64 (hK k), .int .u64 (lK k), .bool true, .bool (sK k), .string ⟨#[]⟩], .nilIface]) (by simp [results, Tryz.results152, go_sem, IntWalk.iteOmega, ↓IntWalk.iteOmega, ca0, ca1, ca2, ca3, ca4, hBl]) rfl ⟨rfl, (Chg.plus (chg5 HCC.out _ _ _ _ _) dd oo).plus_of (fun _ _ => id)⟩
end Go.Proofs.YtmoabfpdlbngeaaGreatDoor
end
