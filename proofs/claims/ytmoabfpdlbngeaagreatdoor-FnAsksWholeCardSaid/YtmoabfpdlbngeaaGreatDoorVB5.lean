/-
  Part of the proofs on the laws of pub-addresssets: joined texts (B5, B6).
-/
import Derived.Test.YtmoabfpdlbngeaaGreatDoorVB3
import Derived.Test.YtmoabfpdlbngeaaGreatDoorVP1
section
namespace Go.Proofs.YtmoabfpdlbngeaaGreatDoor
open Go.RowKit
set_option maxHeartbeats 400000
set_option linter.unusedVariables false
set_option linter.unusedSimpArgs false
/-- What normalizing leaves. -/
def Nrm (w : World) (B : Nat) (vi vo : Value) (N : Nat) (S : Nat → Prop) (w' : World) (v : Value) (m : Nat) (h : Nat → Nat × Nat) : Prop :=
  Moved w w' B vi vo v (.slice none 0 0) ∧ Bld w' B v (.slice none 0 0) m h 0 h ∧ (∀ k, v.ownBlock = some k → w.heap.size ≤ k) ∧ CanonR m h ∧ (∀ k, MemR m h k ↔ S k) ∧ m ≤ N
theorem s124 (B : Nat) (vi vo : Value) (N : Nat) (S : Nat → Prop) (hN : N ≤ 80000000) (w : World) (H : Bs w B vi vo N S) : Calls Tryz.prog 124 #[.pointer (some ⟨B, 0, none⟩)] w fun e w' => e = .returned (.tuple #[]) ∧ ∃ v m h, Nrm w B vi vo N S w' v m h := by
  obtain ⟨n, f, n', f', H, h1, h2⟩ := H
  refine (c124 B vi vo n f n' f' (by omega) (by omega) w H).mono ?_
  rintro e w' ⟨rfl, v, m, h, C, H', fr, K, M, l⟩
  exact ⟨rfl, v, m, h, moved124 (.refl _ w) C fr, H', fr, K, fun k => (M k).trans (h2 k).symm, by omega⟩
def z4K : Nat := 0
def z6K : Nat := 8589934592
theorem k93z (w : World) : Calls Tryz.prog 93 #[.agg #[.int .u8 0, .int .u8 0, .int .u8 0, .int .u8 0]] w fun e w' => e = .returned (.agg #[.int .u64 (hK z4K), .int .u64 (lK z4K), .bool true, .bool (sK z4K), .string ⟨#[]⟩]) ∧ Plus w w' := c93 0 0 0 0 w
theorem k54z (w : World) : Calls Tryz.prog 54 #[.agg #[.int .u64 (hK z4K), .int .u64 (lK z4K), .bool true, .bool (sK z4K), .string ⟨#[]⟩], .int .i64 0] w fun e w' => e = .returned (.agg #[.int .u64 (hK z4K), .int .u64 (lK z4K), .bool true, .bool (sK z4K), .string ⟨#[]⟩, .int .u8 1]) ∧ Plus w w' := k54 z4K 0 (by decide) (by decide) w
theorem k54y (w : World) : Calls Tryz.prog 54 #[.agg #[.int .u64 (hK z6K), .int .u64 (lK z6K), .bool true, .bool (sK z6K), .string ⟨#[]⟩], .int .i64 0] w fun e w' => e = .returned (.agg #[.int .u64 (hK z6K), .int .u64 (lK z6K), .bool true, .bool (sK z6K), .string ⟨#[]⟩, .int .u8 1]) ∧ Plus w w' := k54 z6K 0 (by decide) (by decide) w
theorem pfR_z4 : pfR z4K 0 = allR false := by decide
theorem pfR_z6 : pfR z6K 0 = allR true := by decide
theorem k106z (w : World) : Calls Tryz.prog 106 #[.agg #[.int .u64 (hK z4K), .int .u64 (lK z4K), .bool true, .bool (sK z4K), .string ⟨#[]⟩, .int .u8 1]] w fun e w' => e = .returned (.agg #[.int .u64 (hK (allR false).1), .int .u64 (lK (allR false).1), .bool true, .bool (sK (allR false).1), .string ⟨#[]⟩, .int .u64 (hK (allR false).2), .int .u64 (lK (allR false).2), .bool true, .bool (sK (allR false).2), .string ⟨#[]⟩]) ∧ Plus w w' := by
  have hq := k106 z4K 0 (by decide) (by decide) w
  rw [pfR_z4] at hq
  exact hq
theorem k106y (w : World) : Calls Tryz.prog 106 #[.agg #[.int .u64 (hK z6K), .int .u64 (lK z6K), .bool true, .bool (sK z6K), .string ⟨#[]⟩, .int .u8 1]] w fun e w' => e = .returned (.agg #[.int .u64 (hK (allR true).1), .int .u64 (lK (allR true).1), .bool true, .bool (sK (allR true).1), .string ⟨#[]⟩, .int .u64 (hK (allR true).2), .int .u64 (lK (allR true).2), .bool true, .bool (sK (allR true).2), .string ⟨#[]⟩]) ∧ Plus w w' := by
  have hq := k106 z6K 0 (by decide) (by decide) w
  rw [pfR_z6] at hq
  exact hq
theorem x125 (w : World) : Calls Tryz.prog 125 #[] w fun e w' => e = .returned (.agg #[.int .u64 0, .int .u64 0, .bool true, .bool true, .string ⟨#[]⟩]) ∧ Plus w w' := by
  go_enter Tryz.func125, Tryz.ntmps125

  go_wp2_with (first | (go_at_call 132; (with_reducible refine (c132 _).mono ?_); rintro e w' ⟨rfl, dd, oo, rfl⟩))
  exact bodyPost_ret (v := .agg #[.int .u64 0, .int .u64 0, .bool true, .bool true, .string ⟨#[]⟩]) (by simp [results, Tryz.results125, go_sem, IntWalk.iteOmega, ↓IntWalk.iteOmega]) rfl ⟨rfl, by repeat (first | exact Plus.refl _ | refine Plus.alloc ?_ _ | refine Plus.plus ?_ _ _ | refine Plus.drew ?_ | refine Plus.drewN ?_ _)⟩

theorem k125 (w : World) : Calls Tryz.prog 125 #[] w fun e w' => e = .returned (.agg #[.int .u64 (hK z6K), .int .u64 (lK z6K), .bool true, .bool (sK z6K), .string ⟨#[]⟩]) ∧ Plus w w' := x125 w
def allF : Nat → Nat × Nat := fun i => if i = 0 then allR false else allR true
theorem allF_ok : valR 2 allF := fun i hi => by
  unfold allF
  split <;> exact allR_ok _
theorem MemR_all (k : Nat) : MemR 2 allF k ↔ okK k := by
  unfold okK
  constructor
  · rintro ⟨i, hi, q⟩
    have e : i = 0 ∨ i = 1 := by omega
    rcases e with e | e <;> subst e <;> simp [allF, allR] at q <;> omega
  · intro q
    by_cases p : k < 4294967296
    · exact ⟨0, by omega, by simp [allF, allR]; omega⟩
    · exact ⟨1, by omega, by simp [allF, allR]; omega⟩
theorem CanonR_all : CanonR 2 allF := ⟨allF_ok, fun i hi => by
  obtain rfl : i = 0 := by omega
  decide⟩
/-- The complement: what was in goes out, all comes in. -/
theorem compl_end {w w1 X : World} {B G : Nat} {vi vo v : Value} {N : Nat} {S : Nat → Prop} {m : Nat} {h : Nat → Nat × Nat} (Z : Nrm w B vi vo N S w1 v m h) (C : Chg (fun _ => False) ((w1.setCell ⟨B, 1, none⟩ v).setCell ⟨B, 0, none⟩ (.slice (some ⟨G, 0, none⟩) 2 2)) X) (hG : G = X.heap.size) (cs : Array Value) (hcs : cs.toList = cellsD layR 2 allF) :
    Stp w B vi vo (N + 2) (fun k => okK k ∧ ¬ S k) (X.alloc (.cells cs 80)) := by
  obtain ⟨A, H, fr, K, M, l⟩ := Z
  have hB1 := H.blk
  have hBlt : B < w1.heap.size := (Array.getElem?_eq_some_iff.1 hB1).1
  have C1 : Chg (fun k => k = B) w1 ((w1.setCell ⟨B, 1, none⟩ v).setCell ⟨B, 0, none⟩ (.slice (some ⟨G, 0, none⟩) 2 2)) := ((Chg.refl (fun k => k = B) w1).setCell _ _ (fun _ => rfl)).setCell _ _ (fun _ => rfl)
  have hB2 : ((w1.setCell ⟨B, 1, none⟩ v).setCell ⟨B, 0, none⟩ (.slice (some ⟨G, 0, none⟩) 2 2)).heap[B]? = some (.cells #[.slice (some ⟨G, 0, none⟩) 2 2, v, .slice none 0 0] 129 (0, 0)) := by
    rw [setCell_eq_setRow w1 B 1 _ 129 (0, 0) v hB1]
    rw [setCell_eq_setRow _ B 0 _ 129 (0, 0) _ (setRow_heap w1 B _ _ 129 (0, 0) hB1)]
    rw [setRow_heap _ B _ _ 129 (0, 0) (setRow_heap w1 B _ _ 129 (0, 0) hB1)]
    rfl
  have hl2 : B < ((w1.setCell ⟨B, 1, none⟩ v).setCell ⟨B, 0, none⟩ (.slice (some ⟨G, 0, none⟩) 2 2)).heap.size := (Array.getElem?_eq_some_iff.1 hB2).1
  have hB3 := (C.block B hl2 id).trans hB2
  have hBW : B < X.heap.size := (Array.getElem?_eq_some_iff.1 hB3).1
  have hB4 := (Below.heap_alloc X (.cells cs 80) B hBW).trans hB3
  have C5 : Chg (fun k => k = B) w1 (X.alloc (.cells cs 80)) := (C1.trans (C.mono fun _ _ q => q.elim)).alloc _
  have hsz : w1.heap.size ≤ X.heap.size := (C1.trans (C.mono fun _ _ q => q.elim)).size
  have O : OwnDV layR 80 (X.alloc (.cells cs 80)) (.slice (some ⟨G, 0, none⟩) 2 2) 2 allF := by rw [hG]; exact OwnDV.new X cs 2 allF hcs (by omega)
  refine ⟨_, v, A.trans ⟨C5.mono fun k _ q => .inl q, fun k q => ?_⟩, 2, allF, m, h, ⟨hB4, own_from O, H.i.chg C5 (fun k e q => H.notB.1 (by rw [e, q])), allF_ok, H.oki, fun k e q => ?_⟩, by omega, fun k => ?_⟩
  · rcases q with q | q
    · simp only [Value.ownBlock, Option.some.injEq] at q
      exact .inr (by omega)
    · exact .inl (.inl q)
  · simp only [Value.ownBlock, Option.some.injEq] at e
    have := H.i.lt q
    omega
  · rw [MemR_all, M k]
theorem s78 (B : Nat) (vi vo : Value) (N : Nat) (S : Nat → Prop) (hN : N ≤ 80000000) (w : World) (H : Bs w B vi vo N S) : Calls Tryz.prog 78 #[.pointer (some ⟨B, 0, none⟩)] w fun e w' => e = .returned (.tuple #[]) ∧ Stp w B vi vo (N + 2) (fun k => okK k ∧ ¬ S k) w' := by
  go_enter Tryz.func78, Tryz.ntmps78

  go_wp2_with fail
  refine (s124 B vi vo N S hN _ H).mono ?_
  rintro e w1 ⟨rfl, v, m, h, Z⟩
  clear H
  obtain ⟨p, c, rfl⟩ := Z.2.1.i.form
  have HZ : Hid _ := Z
  obtain ⟨cB0, cB1, cB2, fB0, fB1, fB2⟩ := blkB Z.2.1.blk
  have hBlt : B < w1.heap.size := (Array.getElem?_eq_some_iff.1 Z.2.1.blk).1
  clear Z
  go_wp2_with (first | (go_at_call 93; (with_reducible refine (k93z _).mono ?_); rintro e w' ⟨rfl, dd, oo, rfl⟩) | (go_at_call 54; (with_reducible refine (k54z _).mono ?_); rintro e w' ⟨rfl, dd, oo, rfl⟩) | (go_at_call 54; (with_reducible refine (k54y _).mono ?_); rintro e w' ⟨rfl, dd, oo, rfl⟩) | (go_at_call 106; (with_reducible refine (k106z _).mono ?_); rintro e w' ⟨rfl, dd, oo, rfl⟩) | (go_at_call 106; (with_reducible refine (k106y _).mono ?_); rintro e w' ⟨rfl, dd, oo, rfl⟩) | (go_at_call 125; (with_reducible refine (k125 _).mono ?_); rintro e w' ⟨rfl, dd, oo, rfl⟩))
  go_end0
  refine ⟨rfl, ?_⟩
  refine compl_end HZ.out (by (repeat (with_reducible first | refine Chg.plus ?_ _ _ | refine Chg.alloc ?_ _ | refine Chg.drew ?_ | exact Chg.refl _ _))) ?_ _ rfl
  simp [World.setCell]
end Go.Proofs.YtmoabfpdlbngeaaGreatDoor
end

section
namespace Go.Proofs.YtmoabfpdlbngeaaGreatDoor
open Go.RowKit
set_option maxHeartbeats 400000
set_option linter.unusedVariables false
set_option linter.unusedSimpArgs false
/-- A set that lies whole. -/
structure SetAt (w : World) (P : Nat) (v : Value) (m : Nat) (h : Nat → Nat × Nat) : Prop where
  blk : w.heap[P]? = some (.cells #[v] 131 (0, 0))
  own : OwnV w v m h
  can : CanonR m h
theorem SetAt.chg {F : Nat → Prop} {w w' : World} {P : Nat} {v : Value} {m : Nat} {h : Nat → Nat × Nat} (H : SetAt w P v m h) (C : Chg F w w') (h1 : ¬ F P) (h2 : ∀ k, v.ownBlock = some k → ¬ F k) : SetAt w' P v m h :=
  ⟨(C.block P (Array.getElem?_eq_some_iff.1 H.blk).1 h1).trans H.blk, H.own.chg C h2, H.can⟩
theorem SetAt.lt {w : World} {P : Nat} {v : Value} {m : Nat} {h : Nat → Nat × Nat} (H : SetAt w P v m h) : P < w.heap.size := (Array.getElem?_eq_some_iff.1 H.blk).1
theorem SetAt.cell {w : World} {P : Nat} {v : Value} {m : Nat} {h : Nat → Nat × Nat} (H : SetAt w P v m h) : w.cell? ⟨P, 0, none⟩ = some v := by
  rw [cell_of_row w P 0 _ 131 (0, 0) H.blk]; rfl
/-- A builder's blocks are none of a set's. -/
theorem Bs.blk {w : World} {B : Nat} {vi vo : Value} {N : Nat} {S : Nat → Prop} (H : Bs w B vi vo N S) : (∃ cs, w.heap[B]? = some (.cells cs 129 (0, 0))) ∧ ∀ k, (vi.ownBlock = some k ∨ vo.ownBlock = some k) → ∃ cs, w.heap[k]? = some (.cells cs 80 (0, 0)) := by
  obtain ⟨n, f, n', f', H, _⟩ := H
  exact ⟨⟨_, H.blk⟩, fun k q => q.elim H.i.ty H.o.ty⟩
def Apt (v vi vo : Value) : Prop := ∀ k, v.ownBlock = some k → ¬ (vi.ownBlock = some k ∨ vo.ownBlock = some k)
theorem set_far {w : World} {B P : Nat} {vi vo v : Value} {N : Nat} {S : Nat → Prop} {m : Nat} {h : Nat → Nat × Nat} (H : Bs w B vi vo N S) (K : SetAt w P v m h) (A : Apt v vi vo) :
    ¬ (P = B ∨ vi.ownBlock = some P ∨ vo.ownBlock = some P) ∧ ∀ k, v.ownBlock = some k → ¬ (k = B ∨ vi.ownBlock = some k ∨ vo.ownBlock = some k) := by
  obtain ⟨⟨c1, b1⟩, b2⟩ := H.blk
  constructor
  · rintro (q | q)
    · subst q; rw [K.blk] at b1; simp at b1
    · obtain ⟨c2, b3⟩ := b2 P q
      rw [K.blk] at b3; simp at b3
  · rintro k e (q | q)
    · subst q
      obtain ⟨c2, b3⟩ := K.own.ty e
      rw [b1] at b3; simp at b3
    · exact A k e q
theorem SetAt.moved {w w' : World} {B P : Nat} {vi vo vi' vo' v : Value} {N : Nat} {S : Nat → Prop} {m : Nat} {h : Nat → Nat × Nat} (H : Bs w B vi vo N S) (K : SetAt w P v m h) (A : Apt v vi vo) (M : Moved w w' B vi vo vi' vo') : SetAt w' P v m h ∧ Apt v vi' vo' := by
  obtain ⟨f1, f2⟩ := set_far H K A
  refine ⟨K.chg M.chg f1 f2, fun k e q => ?_⟩
  rcases M.own k q with q | q
  · exact A k e q
  · have := K.own.lt e; omega
theorem s81 (B : Nat) (vi vo : Value) (N : Nat) (S : Nat → Prop) (hN : N ≤ 40000000) (P : Nat) (v : Value) (m : Nat) (h : Nat → Nat × Nat) (hm : m ≤ 40000000) (w : World) (H : Bs w B vi vo N S) (K : SetAt w P v m h) (A : Apt v vi vo) : Calls Tryz.prog 81 #[.pointer (some ⟨B, 0, none⟩), .pointer (some ⟨P, 0, none⟩)] w fun e w' => e = .returned (.tuple #[]) ∧ Stp w B vi vo (N + m) (fun k => S k ∨ MemR m h k) w' := by
  obtain ⟨p, c, rfl⟩ := K.own.form
  have HH : Hid _ := H
  have HK : Hid _ := K
  have HA : Hid _ := A
  have cP := K.cell
  clear H K A
  go_enter Tryz.func81, Tryz.ntmps81

  go_wp2_with fail
  go_loopw [13] (fun t13 wr => ∃ i : Nat, t13 = .int .i64 i ∧ i ≤ m ∧ Hid (∃ vi' vo', Moved w wr B vi vo vi' vo' ∧ Bs wr B vi' vo' (N + i) (fun k => S k ∨ MemR i h k)))
    (fun t13 _ => m - (intOf t13).toNat)
  case atStart => exact ⟨0, rfl, Nat.zero_le _, ⟨vi, vo, .refl _ _ _ _, Bs.congr HH.out (by omega) fun k => by simp [MemR_zero]⟩⟩
  case round =>
    obtain ⟨i, rfl, hi, X⟩ := hrel
    by_cases hlt : i < m
    · obtain ⟨vi', vo', X1, X2⟩ := X.out
      have HX1 : Hid _ := X1
      have HX2 : Hid _ := X2
      clear X
      obtain ⟨K2, A2⟩ := SetAt.moved HH.out HK.out HA.out X1
      have hrow : ∃ G cap, p = some ⟨G, 0, none⟩ ∧ c = cap ∧ OwnR wr G m cap h := by
        rcases K2.own with ⟨_, q⟩ | ⟨G, cap, e, q⟩
        · omega
        · simp only [Value.slice.injEq, true_and] at e
          exact ⟨G, cap, e.1, e.2, q⟩
      obtain ⟨G, cap, rfl, rfl, R⟩ := hrow
      have hG := R.lt
      have hle := R.le
      have r1 := R.row i hlt
      rw [Nat.zero_add] at r1
      obtain ⟨ca0, ca1, ca2, ca3, ca4, ca5, ca6, ca7, ca8, ca9⟩ := rc_cells r1
      have ok : okR (h i) := HK.out.can.ok i hlt
      clear X1 X2 K2 A2 R r1 cP
      go_wp2_with fail
      refine (s72 B vi' vo' (N + i) _ (by omega) (h i) ok _ (Bs.chg0 HX2.out (by (repeat (with_reducible first | refine Chg.plus ?_ _ _ | refine Chg.alloc ?_ _ | refine Chg.drew ?_ | exact Chg.refl _ _))))).mono ?_
      rintro e w2 ⟨rfl, Z⟩
      have HZ : Hid (∃ vi' vo', Moved w w2 B vi vo vi' vo' ∧ Bs w2 B vi' vo' (N + (i + 1)) (fun k => S k ∨ MemR (i + 1) h k)) := by
        obtain ⟨v1, v2, z1, z2⟩ := Stp.from0 (w := wr) Z (by (repeat (with_reducible first | refine Chg.plus ?_ _ _ | refine Chg.alloc ?_ _ | refine Chg.drew ?_ | exact Chg.refl _ _)))
        exact ⟨v1, v2, HX1.out.trans z1, z2.congr (by omega) fun k => by rw [MemR_succ]; exact or_assoc⟩
      clear Z ca0 ca1 ca2 ca3 ca4 ca5 ca6 ca7 ca8 ca9
      go_wp2_with fail
      go_roundw
      case rel => exact ⟨i + 1, by go_num, by omega, HZ.out⟩
      case measure => simp [intOf]; omega
    · obtain rfl : i = m := by omega
      go_wp2_with fail
      go_end0
      exact ⟨rfl, X.out⟩
theorem s82 (B : Nat) (vi vo : Value) (N : Nat) (S : Nat → Prop) (hN : N ≤ 40000000) (P : Nat) (v : Value) (m : Nat) (h : Nat → Nat × Nat) (hm : m ≤ 40000000) (w : World) (H : Bs w B vi vo N S) (K : SetAt w P v m h) (A : Apt v vi vo) : Calls Tryz.prog 82 #[.pointer (some ⟨B, 0, none⟩), .pointer (some ⟨P, 0, none⟩)] w fun e w' => e = .returned (.tuple #[]) ∧ Stp w B vi vo (N + m) (fun k => S k ∧ ¬ MemR m h k) w' := by
  obtain ⟨p, c, rfl⟩ := K.own.form
  have HH : Hid _ := H
  have HK : Hid _ := K
  have HA : Hid _ := A
  have cP := K.cell
  clear H K A
  go_enter Tryz.func82, Tryz.ntmps82

  go_wp2_with fail
  go_loopw [13] (fun t13 wr => ∃ i : Nat, t13 = .int .i64 i ∧ i ≤ m ∧ Hid (∃ vi' vo', Moved w wr B vi vo vi' vo' ∧ Bs wr B vi' vo' (N + i) (fun k => S k ∧ ¬ MemR i h k)))
    (fun t13 _ => m - (intOf t13).toNat)
  case atStart => exact ⟨0, rfl, Nat.zero_le _, ⟨vi, vo, .refl _ _ _ _, Bs.congr HH.out (by omega) fun k => by simp [MemR_zero]⟩⟩
  case round =>
    obtain ⟨i, rfl, hi, X⟩ := hrel
    by_cases hlt : i < m
    · obtain ⟨vi', vo', X1, X2⟩ := X.out
      have HX1 : Hid _ := X1
      have HX2 : Hid _ := X2
      clear X
      obtain ⟨K2, A2⟩ := SetAt.moved HH.out HK.out HA.out X1
      have hrow : ∃ G cap, p = some ⟨G, 0, none⟩ ∧ c = cap ∧ OwnR wr G m cap h := by
        rcases K2.own with ⟨_, q⟩ | ⟨G, cap, e, q⟩
        · omega
        · simp only [Value.slice.injEq, true_and] at e
          exact ⟨G, cap, e.1, e.2, q⟩
      obtain ⟨G, cap, rfl, rfl, R⟩ := hrow
      have hG := R.lt
      have hle := R.le
      have r1 := R.row i hlt
      rw [Nat.zero_add] at r1
      obtain ⟨ca0, ca1, ca2, ca3, ca4, ca5, ca6, ca7, ca8, ca9⟩ := rc_cells r1
      have ok : okR (h i) := HK.out.can.ok i hlt
      clear X1 X2 K2 A2 R r1 cP
      go_wp2_with fail
      refine (s73 B vi' vo' (N + i) _ (by omega) (h i) ok _ (Bs.chg0 HX2.out (by (repeat (with_reducible first | refine Chg.plus ?_ _ _ | refine Chg.alloc ?_ _ | refine Chg.drew ?_ | exact Chg.refl _ _))))).mono ?_
      rintro e w2 ⟨rfl, Z⟩
      have HZ : Hid (∃ vi' vo', Moved w w2 B vi vo vi' vo' ∧ Bs w2 B vi' vo' (N + (i + 1)) (fun k => S k ∧ ¬ MemR (i + 1) h k)) := by
        obtain ⟨v1, v2, z1, z2⟩ := Stp.from0 (w := wr) Z (by (repeat (with_reducible first | refine Chg.plus ?_ _ _ | refine Chg.alloc ?_ _ | refine Chg.drew ?_ | exact Chg.refl _ _)))
        exact ⟨v1, v2, HX1.out.trans z1, z2.congr (by omega) fun k => by rw [MemR_succ]; rw [not_or, and_assoc]⟩
      clear Z ca0 ca1 ca2 ca3 ca4 ca5 ca6 ca7 ca8 ca9
      go_wp2_with fail
      go_roundw
      case rel => exact ⟨i + 1, by go_num, by omega, HZ.out⟩
      case measure => simp [intOf]; omega
    · obtain rfl : i = m := by omega
      go_wp2_with fail
      go_end0
      exact ⟨rfl, X.out⟩
end Go.Proofs.YtmoabfpdlbngeaaGreatDoor
end
