/-
  Part of the proofs on the laws of pub-addresssets: joined texts (B7, B8, B9).
-/
import Derived.Test.YtmoabfpdlbngeaaGreatDoorVP1
section
namespace Go.Proofs.YtmoabfpdlbngeaaGreatDoor
open Go.RowKit
set_option maxHeartbeats 400000
set_option linter.unusedVariables false
set_option linter.unusedSimpArgs false
theorem Bs.chg {F : Nat → Prop} {w w' : World} {B : Nat} {vi vo : Value} {N : Nat} {S : Nat → Prop} (H : Bs w B vi vo N S) (C : Chg F w w') (h1 : ¬ F B) (h2 : ∀ k, (vi.ownBlock = some k ∨ vo.ownBlock = some k) → ¬ F k) : Bs w' B vi vo N S := by
  obtain ⟨n, f, n', f', H, b⟩ := H
  exact ⟨n, f, n', f', ⟨(C.block B (Array.getElem?_eq_some_iff.1 H.blk).1 h1).trans H.blk, H.i.chg C (fun k e => h2 k (.inl e)), H.o.chg C (fun k e => h2 k (.inr e)), H.oki, H.oko, H.ne⟩, b⟩
theorem Bs.lt {w : World} {B : Nat} {vi vo : Value} {N : Nat} {S : Nat → Prop} (H : Bs w B vi vo N S) : B < w.heap.size ∧ ∀ k, (vi.ownBlock = some k ∨ vo.ownBlock = some k) → k < w.heap.size := by
  obtain ⟨⟨_, b1⟩, b2⟩ := H.blk
  exact ⟨(Array.getElem?_eq_some_iff.1 b1).1, fun k q => by obtain ⟨_, b3⟩ := b2 k q; exact (Array.getElem?_eq_some_iff.1 b3).1⟩
/-- A row of its own is none of a builder's. -/
theorem own_far {w : World} {B : Nat} {vi vo v : Value} {N : Nat} {S : Nat → Prop} {m : Nat} {h : Nat → Nat × Nat} (H : Bs w B vi vo N S) (K : OwnV w v m h) (A : Apt v vi vo) : ∀ k, v.ownBlock = some k → ¬ (k = B ∨ vi.ownBlock = some k ∨ vo.ownBlock = some k) := by
  obtain ⟨⟨c1, b1⟩, b2⟩ := H.blk
  rintro k e (q | q)
  · subst q
    obtain ⟨c2, b3⟩ := K.ty e
    rw [b1] at b3; simp at b3
  · exact A k e q
theorem own_moved {w w' : World} {B : Nat} {vi vo vi' vo' v : Value} {N : Nat} {S : Nat → Prop} {m : Nat} {h : Nat → Nat × Nat} (H : Bs w B vi vo N S) (K : OwnV w v m h) (A : Apt v vi vo) (M : Moved w w' B vi vo vi' vo') : OwnV w' v m h ∧ Apt v vi' vo' := by
  refine ⟨K.chg M.chg (own_far H K A), fun k e q => ?_⟩
  rcases M.own k q with q | q
  · exact A k e q
  · have := K.lt e; omega
theorem s126 (B : Nat) (vi vo : Value) (N : Nat) (S : Nat → Prop) (hN : N ≤ 40000000) (C : Nat) (wi wo : Value) (M : Nat) (T : Nat → Prop) (hM : M ≤ 40000000) (w : World) (H : Bs w B vi vo N S) (H2 : Bs w C wi wo M T) (hCB : C ≠ B) (A : ∀ k, (wi.ownBlock = some k ∨ wo.ownBlock = some k) → ¬ (vi.ownBlock = some k ∨ vo.ownBlock = some k)) :
    Calls Tryz.prog 126 #[.pointer (some ⟨B, 0, none⟩), .pointer (some ⟨C, 0, none⟩)] w fun e w' => e = .returned (.tuple #[]) ∧ ∃ w1, Chg (fun k => k = C ∨ wi.ownBlock = some k ∨ wo.ownBlock = some k) w w1 ∧ Stp w1 B vi vo (N + M) (fun k => S k ∧ ¬ T k) w' := by
  go_enter Tryz.func126, Tryz.ntmps126

  go_wp2_with fail
  refine (s124 C wi wo M T (by omega) _ H2).mono ?_
  rintro e w1 ⟨rfl, v, m, h, Z⟩
  obtain ⟨p, c, rfl⟩ := Z.2.1.i.form
  have H1 : Bs w1 B vi vo N S := by
    obtain ⟨⟨c1, b1⟩, b2⟩ := H.blk
    obtain ⟨⟨c3, b3⟩, b4⟩ := H2.blk
    refine H.chg Z.1.chg ?_ ?_
    · rintro (q | q)
      · exact hCB q.symm
      · obtain ⟨c5, b5⟩ := b4 B q
        rw [b1] at b5; simp at b5
    · rintro k q (r | r)
      · subst r
        obtain ⟨c5, b5⟩ := b2 k q
        rw [b3] at b5; simp at b5
      · exact A k r q
  have A1 : Apt (.slice p m c) vi vo := fun k e q => by
    have := Z.2.2.1 k e
    have := H.lt.2 k q
    omega
  have HC : Hid (Chg (fun k => k = C ∨ wi.ownBlock = some k ∨ wo.ownBlock = some k) w w1) := Z.1.chg
  have HH : Hid _ := H1
  have HK : Hid _ := Z.2.1.i
  have HA : Hid _ := A1
  have HN : Hid (CanonR m h ∧ (∀ k, MemR m h k ↔ T k)) := ⟨Z.2.2.2.1, Z.2.2.2.2.1⟩
  have hmM : m ≤ M := Z.2.2.2.2.2
  obtain ⟨cC0, cC1, cC2, fC0, fC1, fC2⟩ := blkB Z.2.1.blk
  clear H H2 A Z H1 A1 hCB
  go_wp2_with fail
  go_loopw [13] (fun t13 wr => ∃ i : Nat, t13 = .int .i64 i ∧ i ≤ m ∧ Hid (∃ vi' vo', Moved w1 wr B vi vo vi' vo' ∧ Bs wr B vi' vo' (N + i) (fun k => S k ∧ ¬ MemR i h k)))
    (fun t13 _ => m - (intOf t13).toNat)
  case atStart => exact ⟨0, rfl, Nat.zero_le _, ⟨vi, vo, .refl _ _ _ _, Bs.congr HH.out (by omega) fun k => by simp [MemR_zero]⟩⟩
  case round =>
    obtain ⟨i, rfl, hi, X⟩ := hrel
    by_cases hlt : i < m
    · obtain ⟨vi', vo', X1, X2⟩ := X.out
      have HX1 : Hid _ := X1
      have HX2 : Hid _ := X2
      clear X
      obtain ⟨K2, A2⟩ := own_moved HH.out HK.out HA.out X1
      have hrow : ∃ G cap, p = some ⟨G, 0, none⟩ ∧ c = cap ∧ OwnR wr G m cap h := by
        rcases K2 with ⟨_, q⟩ | ⟨G, cap, e, q⟩
        · omega
        · simp only [Value.slice.injEq, true_and] at e
          exact ⟨G, cap, e.1, e.2, q⟩
      obtain ⟨G, cap, rfl, rfl, R⟩ := hrow
      have hG := R.lt
      have hle := R.le
      have r1 := R.row i hlt
      rw [Nat.zero_add] at r1
      obtain ⟨ca0, ca1, ca2, ca3, ca4, ca5, ca6, ca7, ca8, ca9⟩ := rc_cells r1
      have ok : okR (h i) := HN.out.1.ok i hlt
      clear X1 X2 K2 A2 R r1 cC0 cC1 cC2 fC0 fC1 fC2
      go_wp2_with fail
      refine (s73 B vi' vo' (N + i) _ (by omega) (h i) ok _ (Bs.chg0 HX2.out (by (repeat (with_reducible first | refine Chg.plus ?_ _ _ | refine Chg.alloc ?_ _ | refine Chg.drew ?_ | exact Chg.refl _ _))))).mono ?_
      rintro e w2 ⟨rfl, Z⟩
      have HZ : Hid (∃ vi' vo', Moved w1 w2 B vi vo vi' vo' ∧ Bs w2 B vi' vo' (N + (i + 1)) (fun k => S k ∧ ¬ MemR (i + 1) h k)) := by
        obtain ⟨v1, v2, z1, z2⟩ := Stp.from0 (w := wr) Z (by (repeat (with_reducible first | refine Chg.plus ?_ _ _ | refine Chg.alloc ?_ _ | refine Chg.drew ?_ | exact Chg.refl _ _)))
        exact ⟨v1, v2, HX1.out.trans z1, z2.congr (by omega) fun k => by rw [MemR_succ]; rw [not_or, and_assoc]⟩
      clear Z ca0 ca1 ca2 ca3 ca4 ca5 ca6 ca7 ca8 ca9
      go_wp2_with fail
      go_roundw
      case rel => exact ⟨i + 1, by go_num, by omega, HZ.out⟩
      case measure => simp [intOf]; omega
    · obtain rfl : i = m := by omega
      go_wp2_with fail
      go_end0
      obtain ⟨v1, v2, z1, z2⟩ := X.out
      exact ⟨rfl, w1, HC.out, v1, v2, z1, z2.congr (by omega) fun k => by rw [HN.out.2 k]⟩
theorem Bs.empty (w : World) : Bs (w.alloc (.cells #[.slice none 0 0, .slice none 0 0, .slice none 0 0] 129)) w.heap.size (.slice none 0 0) (.slice none 0 0) 0 (fun _ => False) :=
  ⟨0, allF, 0, allF, ⟨heap_alloc_new w _, .inl ⟨rfl, rfl⟩, .inl ⟨rfl, rfl⟩, fun i hi => by omega, fun i hi => by omega, fun k e q => by simp [Value.ownBlock] at e⟩, by omega, fun k => by simp [MemR_zero]⟩
theorem s83 (B : Nat) (vi vo : Value) (N : Nat) (S : Nat → Prop) (hN : N ≤ 40000000) (P : Nat) (v : Value) (m : Nat) (h : Nat → Nat × Nat) (hm : m ≤ 30000000) (w : World) (H : Bs w B vi vo N S) (K : SetAt w P v m h) (A : Apt v vi vo) : Calls Tryz.prog 83 #[.pointer (some ⟨B, 0, none⟩), .pointer (some ⟨P, 0, none⟩)] w fun e w' => e = .returned (.tuple #[]) ∧ Stp w B vi vo (N + (2 + m)) (fun k => S k ∧ ¬ (okK k ∧ ¬ MemR m h k)) w' := by
  have HH : Hid _ := H
  have HK : Hid _ := K
  clear H K A
  go_enter Tryz.func83, Tryz.ntmps83

  go_wp2_with fail
  refine (s78 w.heap.size _ _ 0 _ (by omega) _ (Bs.empty w)).mono ?_
  rintro e w1 ⟨rfl, v1, v2, M1, B1⟩
  have hC1 : Chg (fun _ => False) w w1 := ⟨M1.chg.os, M1.chg.tape, M1.chg.output, by have := M1.chg.size; simp at this; omega, fun k hk _ => (M1.chg.block k (by simp; omega) (by simp [Value.ownBlock]; omega)).trans (Below.heap_alloc w _ k hk)⟩
  have o1 : ∀ k, (v1.ownBlock = some k ∨ v2.ownBlock = some k) → w.heap.size ≤ k := fun k q => by
    rcases M1.own k q with q | q
    · simp [Value.ownBlock] at q
    · simp at q; omega
  have K1 : SetAt w1 P v m h := HK.out.chg hC1 id (fun _ _ => id)
  have A1 : Apt v v1 v2 := fun k e q => by
    have := HK.out.own.lt e
    have := o1 k q
    omega
  have HC1 : Hid _ := hC1
  have HO1 : Hid _ := o1
  have HB1 : Hid _ := B1
  have HK1 : Hid _ := K1
  have HA1 : Hid _ := A1
  clear M1 B1 hC1 o1 K1 A1
  go_wp2_with fail
  refine (s82 w.heap.size v1 v2 (0 + 2) _ (by omega) P v m h (by omega) _ HB1.out HK1.out HA1.out).mono ?_
  rintro e w2 ⟨rfl, v3, v4, M2, B2⟩
  have hC2 : Chg (fun _ => False) w w2 := ⟨M2.chg.os.trans HC1.out.os, M2.chg.tape.trans HC1.out.tape, M2.chg.output.trans HC1.out.output, Nat.le_trans HC1.out.size M2.chg.size, fun k hk _ => (M2.chg.block k (Nat.lt_of_lt_of_le hk HC1.out.size) (fun q => by
    rcases q with q | q
    · omega
    · have := HO1.out k q; omega)).trans (HC1.out.block k hk id)⟩
  have o2 : ∀ k, (v3.ownBlock = some k ∨ v4.ownBlock = some k) → w.heap.size ≤ k := fun k q => by
    rcases M2.own k q with q | q
    · exact HO1.out k q
    · have := HC1.out.size; omega
  have b2 : Bs w2 B vi vo N S := Bs.chg0 HH.out hC2
  have hlt := (Bs.lt HH.out)
  have HC2 : Hid _ := hC2
  have HO2 : Hid _ := o2
  have HB2 : Hid _ := B2
  have HBB : Hid _ := b2
  have HL : Hid _ := hlt
  clear M2 B2 hC2 o2 b2 hlt HC1 HO1 HB1 HK1 HA1
  go_wp2_with fail
  refine (s126 B vi vo N S hN w.heap.size v3 v4 (0 + 2 + m) _ (by omega) _ HBB.out HB2.out (by have := HL.out.1; omega) (fun k q r => by have := HO2.out k q; have := HL.out.2 k r; omega)).mono ?_
  rintro e w3 ⟨rfl, w4, C4, Z⟩
  have HZ : Hid (Stp w B vi vo (N + (2 + m)) (fun k => S k ∧ ¬ (okK k ∧ ¬ MemR m h k)) w3) := by
    have C5 : Chg (fun _ => False) w w4 := ⟨C4.os.trans HC2.out.os, C4.tape.trans HC2.out.tape, C4.output.trans HC2.out.output, Nat.le_trans HC2.out.size C4.size, fun k hk _ => (C4.block k (Nat.lt_of_lt_of_le hk HC2.out.size) (fun q => by
      rcases q with q | q
      · omega
      · have := HO2.out k q; omega)).trans (HC2.out.block k hk id)⟩
    exact (Stp.from0 Z C5).congr (by omega) fun k => by simp
  clear C4 Z
  go_wp2_with fail
  go_end0
  exact ⟨rfl, HZ.out⟩
end Go.Proofs.YtmoabfpdlbngeaaGreatDoor
end

section
namespace Go.Proofs.YtmoabfpdlbngeaaGreatDoor
open Go.RowKit
set_option maxHeartbeats 400000
set_option linter.unusedVariables false
set_option linter.unusedSimpArgs false
theorem chg_nil {w w' : World} (C : Chg (AtV (.slice none 0 0)) w w') : Chg (fun _ => False) w w' := C.mono fun k _ q => by simp [AtV, Value.ownBlock] at q
theorem appF_zero {α : Type} (h f : Nat → α) : appF 0 h f = f := by
  funext j
  unfold appF
  rw [if_neg (by omega), Nat.sub_zero]
/-- The builder's row, read in a later world. -/
theorem rd_of {w W : World} {v : Value} {n : Nat} {f : Nat → Nat × Nat} (H : OwnV w v n f) (C : Chg (fun _ => False) w W) : Rd layR W v n f := (own_to H).rd.chg0 C
theorem hat_nil {v : Value} {H : Nat} (q : v.ownBlock = (Value.slice none 0 0).ownBlock ∨ v.ownBlock = some H) (j : Nat) (e : v.ownBlock = some j) : j = H := by
  rcases q with q | q
  · rw [q] at e; simp [Value.ownBlock] at e
  · rw [q] at e; simpa using e.symm
theorem clone_end {w X : World} {B : Nat} {vi vo v1 v2 : Value} {n : Nat} {f : Nat → Nat × Nat} {n' : Nat} {f' : Nat → Nat × Nat} (H : Bld w B vi vo n f n' f') (C : Chg (fun _ => False) w X) (O1 : OwnDV layR 80 X v1 n (appF 0 f f)) (O2 : OwnDV layR 80 X v2 n' (appF 0 f' f'))
    (h1 : ∀ k, v1.ownBlock = some k → w.heap.size ≤ k) (h2 : ∀ k, v2.ownBlock = some k → w.heap.size ≤ k) (ne : ∀ k, v1.ownBlock = some k → v2.ownBlock ≠ some k) :
    ∃ u1 u2, Chg (fun _ => False) w (X.alloc (.cells #[v1, v2, .slice none 0 0] 129)) ∧ Bld (X.alloc (.cells #[v1, v2, .slice none 0 0] 129)) X.heap.size u1 u2 n f n' f' ∧ w.heap.size ≤ X.heap.size ∧ ∀ k, (u1.ownBlock = some k ∨ u2.ownBlock = some k) → w.heap.size ≤ k := by
  rw [appF_zero] at O1 O2
  have A : Chg (fun _ => False) X (X.alloc (.cells #[v1, v2, .slice none 0 0] 129)) := (Chg.refl _ X).alloc _
  exact ⟨v1, v2, C.alloc _, ⟨heap_alloc_new X _, own_from (O1.chg A (fun _ _ => id)), own_from (O2.chg A (fun _ _ => id)), H.oki, H.oko, ne⟩, C.size, fun k q => q.elim (h1 k) (h2 k)⟩
/-- What a clone is: a builder of its own. -/
def Cln (w w' : World) (Q : Nat) (N : Nat) (S : Nat → Prop) : Prop := ∃ v1 v2, Chg (fun _ => False) w w' ∧ Bs w' Q v1 v2 N S ∧ w.heap.size ≤ Q ∧ ∀ k, (v1.ownBlock = some k ∨ v2.ownBlock = some k) → w.heap.size ≤ k
theorem c80 (B : Nat) (vi vo : Value) (n : Nat) (f : Nat → Nat × Nat) (n' : Nat) (f' : Nat → Nat × Nat) (hn : n ≤ 100000000) (hn' : n' ≤ 100000000) (w : World) (H : Bld w B vi vo n f n' f') :
    Calls Tryz.prog 80 #[.pointer (some ⟨B, 0, none⟩)] w fun e w' => ∃ Q, e = .returned (.pointer (some ⟨Q, 0, none⟩)) ∧ Hid (∃ v1 v2, Chg (fun _ => False) w w' ∧ Bld w' Q v1 v2 n f n' f' ∧ w.heap.size ≤ Q ∧ ∀ k, (v1.ownBlock = some k ∨ v2.ownBlock = some k) → w.heap.size ≤ k) := by
  obtain ⟨p, c, rfl⟩ := H.i.form
  obtain ⟨p', c', rfl⟩ := H.o.form
  have HH : Hid _ := H
  obtain ⟨cB0, cB1, cB2, fB0, fB1, fB2⟩ := blkB H.blk
  have hBlt : B < w.heap.size := (Array.getElem?_eq_some_iff.1 H.blk).1
  clear H
  go_enter Tryz.func80, Tryz.ntmps80

  go_wp2_with fail
  go_region_law (first | (refine stepD rfl (.const (.slice none 0 0)) (.tmp 6) 71 80 infoR under71 (by omega) rfl (.slice none 0 0) 0 f rfl (OwnDV.nil f) n f ?hr ?sz ?_; (case hr => exact rd_of HH.out.i (by (repeat (with_reducible first | refine Chg.plus ?_ _ _ | refine Chg.alloc ?_ _ | refine Chg.drew ?_ | exact Chg.refl _ _ | exact HC1.out | exact HC2.out)))); (case sz => omega); intro p1 c1 w1 hO1 hC1 hat1; have HC1 : Hid (Chg (fun _ => False) w w1) := (by (repeat (with_reducible first | refine Chg.plus ?_ _ _ | refine Chg.alloc ?_ _ | refine Chg.drew ?_ | exact Chg.refl _ _ | exact HC1.out | exact HC2.out)) : Chg (fun _ => False) w _).trans (chg_nil hC1); have HD1 : Hid (Chg (fun _ => False) _ w1) := chg_nil hC1; have hf1 : Hid (∀ j, (Value.slice p1 (0 + n) c1).ownBlock = some j → j = _) := hat_nil hat1.out; clear hC1 hat1; have hB' : w1.heap[B]? = some (.cells #[.slice p n c, .slice p' n' c', .slice none 0 0] 129 (0, 0)) := (HC1.out.block B hBlt id).trans HH.out.blk; obtain ⟨eB0, eB1, eB2, gB0, gB1, gB2⟩ := blkB hB'; have hBl' : B < w1.heap.size := (Array.getElem?_eq_some_iff.1 hB').1; clear hB') | (refine stepD rfl (.const (.slice none 0 0)) (.tmp 11) 71 80 infoR under71 (by omega) rfl (.slice none 0 0) 0 f' rfl (OwnDV.nil f') n' f' ?hr ?sz ?_; (case hr => exact rd_of HH.out.o (by (repeat (with_reducible first | refine Chg.plus ?_ _ _ | refine Chg.alloc ?_ _ | refine Chg.drew ?_ | exact Chg.refl _ _ | exact HC1.out | exact HC2.out)))); (case sz => omega); intro p2 c2 w2 hO2 hC2 hat2; have HC2 : Hid (Chg (fun _ => False) w w2) := (by (repeat (with_reducible first | refine Chg.plus ?_ _ _ | refine Chg.alloc ?_ _ | refine Chg.drew ?_ | exact Chg.refl _ _ | exact HC1.out | exact HC2.out)) : Chg (fun _ => False) w _).trans (chg_nil hC2); have HD2 : Hid (Chg (fun _ => False) _ w2) := chg_nil hC2; have hf2 : Hid (∀ j, (Value.slice p2 (0 + n') c2).ownBlock = some j → j = _) := hat_nil hat2.out; clear hC2 hat2; have hB' : w2.heap[B]? = some (.cells #[.slice p n c, .slice p' n' c', .slice none 0 0] 129 (0, 0)) := (HC2.out.block B hBlt id).trans HH.out.blk; obtain ⟨eB0, eB1, eB2, gB0, gB1, gB2⟩ := blkB hB'; have hBl' : B < w2.heap.size := (Array.getElem?_eq_some_iff.1 hB').1; clear hB'))
  all_goals go_wp2_with fail
  all_goals go_ret
  all_goals refine ⟨_, rfl, ?_⟩
  all_goals unfold Hid
  all_goals have T1 := hO1.out
  all_goals have T2 := hO2.out
  all_goals have F1 := hf1.out
  all_goals have F2 := hf2.out
  all_goals rw [Nat.zero_add] at T1 T2 F1 F2
  all_goals refine clone_end HH.out (n := n) (n' := n') (f := f) (f' := f') (v1 := .slice p1 n c1) (v2 := .slice p2 n' c2) (by (repeat (with_reducible first | refine Chg.plus ?_ _ _ | refine Chg.alloc ?_ _ | refine Chg.drew ?_ | exact Chg.refl _ _ | exact HC1.out | exact HC2.out))) (T1.chg (F := fun _ => False) (by (repeat (with_reducible first | refine Chg.plus ?_ _ _ | refine Chg.alloc ?_ _ | refine Chg.drew ?_ | exact Chg.refl _ _ | exact HD1.out | exact HD2.out))) (fun _ _ => id)) (T2.chg (F := fun _ => False) (by (repeat (with_reducible first | refine Chg.plus ?_ _ _ | refine Chg.alloc ?_ _ | refine Chg.drew ?_ | exact Chg.refl _ _ | exact HD1.out | exact HD2.out))) (fun _ _ => id)) (fun k e => ?_) (fun k e => ?_) (fun k e q => ?_)
  all_goals have s1 := HC1.out.size
  all_goals have s2 := HC2.out.size
  all_goals first | (have := F1 _ e; have := F2 _ q; have := T1.lt e; have := T2.lt q; simp at *; omega) | (have := F1 _ e; simp at *; omega) | (have := F2 _ e; simp at *; omega)
end Go.Proofs.YtmoabfpdlbngeaaGreatDoor
end

section
namespace Go.Proofs.YtmoabfpdlbngeaaGreatDoor
open Go.RowKit
set_option maxHeartbeats 400000
set_option linter.unusedVariables false
set_option linter.unusedSimpArgs false
theorem s80 (B : Nat) (vi vo : Value) (N : Nat) (S : Nat → Prop) (hN : N ≤ 40000000) (w : World) (H : Bs w B vi vo N S) : Calls Tryz.prog 80 #[.pointer (some ⟨B, 0, none⟩)] w fun e w' => ∃ Q, e = .returned (.pointer (some ⟨Q, 0, none⟩)) ∧ Hid (Cln w w' Q N S) := by
  obtain ⟨n, f, n', f', H, h1, h2⟩ := H
  refine (c80 B vi vo n f n' f' (by omega) (by omega) w H).mono ?_
  rintro e w' ⟨Q, rfl, Z⟩
  obtain ⟨v1, v2, C, H', a, b⟩ := Z.out
  exact ⟨Q, rfl, v1, v2, C, ⟨n, f, n', f', H', h1, h2⟩, a, b⟩
theorem Chg.app {w W w' : World} {v : Value} (C : Chg (fun _ => False) w W) (hC : Chg (AtV v) W w') (hv : ∀ k, v.ownBlock = some k → w.heap.size ≤ k) : Chg (fun _ => False) w w' :=
  ⟨hC.os.trans C.os, hC.tape.trans C.tape, hC.output.trans C.output, Nat.le_trans C.size hC.size, fun k hk _ => (hC.block k (Nat.lt_of_lt_of_le hk C.size) (fun q => by have := hv k q; omega)).trans (C.block k hk id)⟩
/-- What IPSet leaves. -/
structure Ips (w : World) (B : Nat) (vi vo : Value) (N : Nat) (S : Nat → Prop) (w' : World) (P : Nat) (v u : Value) (m : Nat) (h : Nat → Nat × Nat) : Prop where
  mv : Moved w w' B vi vo v (.slice none 0 0)
  bs : Bs w' B v (.slice none 0 0) N S
  set : SetAt w' P u m h
  apt : Apt u v (.slice none 0 0)
  hP : w.heap.size ≤ P
  hu : ∀ k, u.ownBlock = some k → w.heap.size ≤ k
  mem : ∀ k, MemR m h k ↔ S k
  le : m ≤ N
theorem ips_end {w w1 X : World} {B : Nat} {vi vo v u : Value} {N : Nat} {S : Nat → Prop} {m : Nat} {h : Nat → Nat × Nat} (Z : Nrm w B vi vo N S w1 v m h) (C : Chg (fun _ => False) w1 X) (O : OwnDV layR 80 X u m h) (hu : ∀ k, u.ownBlock = some k → w1.heap.size ≤ k) :
    Ips w B vi vo N S (X.alloc (.cells #[u] 131)) X.heap.size v u m h := by
  obtain ⟨A, H, fr, K, M, l⟩ := Z
  have C1 : Chg (fun _ => False) w1 (X.alloc (.cells #[u] 131)) := C.alloc _
  have C2 : Chg (fun _ => False) X (X.alloc (.cells #[u] 131)) := (Chg.refl _ X).alloc _
  have s1 := A.chg.size
  have s2 := C.size
  refine ⟨A.trans (.of0 C1 B v _), ⟨m, h, 0, h, H.chg0 C1, by omega, fun k => ?_⟩, ⟨heap_alloc_new X _, own_from (O.chg C2 (fun _ _ => id)), K⟩, fun k e q => ?_, by omega, fun k e => by have := hu k e; omega, M, l⟩
  · rw [← M k]
    exact ⟨fun q => ⟨q, MemR_zero _ _⟩, fun q => q.1⟩
  · rcases q with q | q
    · have := H.i.lt q
      have := hu k e
      omega
    · simp [Value.ownBlock] at q
theorem c90 (B : Nat) (vi vo : Value) (N : Nat) (S : Nat → Prop) (hN : N ≤ 40000000) (w : World) (H : Bs w B vi vo N S) : Calls Tryz.prog 90 #[.pointer (some ⟨B, 0, none⟩)] w fun e w' => ∃ P, e = .returned (.tuple #[.pointer (some ⟨P, 0, none⟩), .nilIface]) ∧ Hid (∃ v u m h, Ips w B vi vo N S w' P v u m h) := by
  go_enter Tryz.func90, Tryz.ntmps90

  go_wp2_with fail
  refine (s124 B vi vo N S (by omega) _ H).mono ?_
  rintro e w1 ⟨rfl, v, m, h, Z⟩
  obtain ⟨p, c, rfl⟩ := Z.2.1.i.form
  have HZ : Hid _ := Z
  obtain ⟨cB0, cB1, cB2, fB0, fB1, fB2⟩ := blkB Z.2.1.blk
  have hBlt : B < w1.heap.size := (Array.getElem?_eq_some_iff.1 Z.2.1.blk).1
  have hm : m ≤ N := Z.2.2.2.2.2
  clear Z H
  go_wp2_with (at_builtin; refine appD rfl (.tmp 8) (.tmp 12) 71 80 infoR under71 (by omega) rfl _ 0 h rfl (OwnDV.new _ #[] 0 h rfl (by omega)) m h ?hr ?sz ?_)
  case hr => exact rd_of HZ.out.2.1.i (by (repeat (with_reducible first | refine Chg.plus ?_ _ _ | refine Chg.alloc ?_ _ | refine Chg.drew ?_ | exact Chg.refl _ _)))
  case sz => omega
  intro p' c' w2 hO hC hat
  have HC : Hid (Chg (fun _ => False) w1 w2) := Chg.app (by (repeat (with_reducible first | refine Chg.plus ?_ _ _ | refine Chg.alloc ?_ _ | refine Chg.drew ?_ | exact Chg.refl _ _))) hC (fun k e => by simp only [Value.ownBlock, Option.some.injEq] at e; omega)
  have HO : Hid (OwnDV layR 80 w2 (.slice p' m c') m h) := by
    have := hO.out
    first | rwa [Nat.zero_add, appF_zero] at this | rwa [appF_zero] at this
  have HF : Hid (∀ k, (Value.slice p' m c').ownBlock = some k → w1.heap.size ≤ k) := fun k e => by
    have hat' := hat.out
    try rw [Nat.zero_add] at hat'
    rcases hat' with q | q
    · rw [q] at e; simp only [Value.ownBlock, Option.some.injEq] at e; omega
    · rw [q] at e; simp at e; omega
  clear hO hC hat
  have hB' : w2.heap[B]? = some (.cells #[.slice p m c, .slice none 0 0, .slice none 0 0] 129 (0, 0)) := (HC.out.block B hBlt id).trans HZ.out.2.1.blk
  obtain ⟨eB0, eB1, eB2, gB0, gB1, gB2⟩ := blkB hB'
  have hBl' : B < w2.heap.size := (Array.getElem?_eq_some_iff.1 hB').1
  clear hB' cB0 cB1 cB2 fB0 fB1 fB2
  go_wp2_with fail
  go_ret2
  refine ⟨_, rfl, ?_⟩
  have T1 := HO.out
  have T2 := HF.out
  exact ⟨_, _, m, h, ips_end HZ.out HC.out T1 T2⟩
theorem c79 (B : Nat) (vi vo : Value) (N : Nat) (S : Nat → Prop) (hN : N ≤ 40000000) (w : World) (H : Bs w B vi vo N S) : Calls Tryz.prog 79 #[.pointer (some ⟨B, 0, none⟩)] w fun e w' => ∃ P, e = .returned (.pointer (some ⟨P, 0, none⟩)) ∧ Hid (∃ v u m h, Ips w B vi vo N S w' P v u m h) := by
  have HH : Hid _ := H
  clear H
  go_enter Tryz.func79, Tryz.ntmps79

  go_wp2_with fail
  refine (c90 B vi vo N S hN _ HH.out).mono ?_
  rintro e w' ⟨P, rfl, Z⟩
  go_wp2_with fail
  go_ret
  exact ⟨_, rfl, Z⟩
/-- The ranges of a set: a row of the call's own. -/
theorem c30 (P : Nat) (v : Value) (m : Nat) (h : Nat → Nat × Nat) (hm : m ≤ 40000000) (w : World) (K : SetAt w P v m h) : Calls Tryz.prog 30 #[.pointer (some ⟨P, 0, none⟩)] w fun e w' => ∃ p c, e = .returned (.slice p m c) ∧ Hid (Chg (fun _ => False) w w' ∧ OwnDV layR 80 w' (.slice p m c) m h ∧ ∀ k, (Value.slice p m c).ownBlock = some k → w.heap.size ≤ k) := by
  obtain ⟨p, c, rfl⟩ := K.own.form
  have HK : Hid _ := K
  have cP := K.cell
  have hP := K.lt
  clear K
  go_enter Tryz.func30, Tryz.ntmps30

  go_wp2_with (at_builtin; refine appD rfl (.tmp 3) (.tmp 7) 71 80 infoR under71 (by omega) rfl _ 0 h rfl (OwnDV.new _ #[] 0 h rfl (by omega)) m h ?hr ?sz ?_)
  case hr => exact rd_of HK.out.own (by (repeat (with_reducible first | refine Chg.plus ?_ _ _ | refine Chg.alloc ?_ _ | refine Chg.drew ?_ | exact Chg.refl _ _)))
  case sz => omega
  intro p' c' w2 hO hC hat
  have HC : Hid (Chg (fun _ => False) w w2) := Chg.app (by (repeat (with_reducible first | refine Chg.plus ?_ _ _ | refine Chg.alloc ?_ _ | refine Chg.drew ?_ | exact Chg.refl _ _))) hC (fun k e => by simp only [Value.ownBlock, Option.some.injEq] at e; omega)
  have HO : Hid (OwnDV layR 80 w2 (.slice p' m c') m h) := by
    have := hO.out
    first | rwa [Nat.zero_add, appF_zero] at this | rwa [appF_zero] at this
  have HF : Hid (∀ k, (Value.slice p' m c').ownBlock = some k → w.heap.size ≤ k) := fun k e => by
    have hat' := hat.out
    try rw [Nat.zero_add] at hat'
    rcases hat' with q | q
    · rw [q] at e; simp only [Value.ownBlock, Option.some.injEq] at e; omega
    · rw [q] at e; simp at e; omega
  clear hO hC hat
  go_wp2_with fail
  go_ret
  have T1 := HO.out
  have T2 := HF.out
  exact ⟨_, _, rfl, HC.out, T1, T2⟩
end Go.Proofs.YtmoabfpdlbngeaaGreatDoor
end
