/-
  Part of the proofs on the laws of pub-addresssets: joined texts (T3).
-/
import Derived.Test.YtmoabfpdlbngeaaGreatDoorVT1
section
namespace Go.Proofs.YtmoabfpdlbngeaaGreatDoor
open Go.RowKit
set_option maxHeartbeats 400000
set_option linter.unusedVariables false
set_option linter.unusedSimpArgs false
def FrP (w : World) (m : Nat) (h : Nat → Nat × Nat) (P bits : Nat) (e : Ending) (w' : World) : Prop :=
  (e = .returned (.tuple #[.agg #[.int .u64 0, .int .u64 0, .bool false, .bool false, .string ⟨#[]⟩, .int .u8 0], .pointer (some ⟨P, 0, none⟩), .bool false]) ∧ Hid (Chg (fun _ => False) w w' ∧ ∀ x, InCh h m x → bits < x.2)) ∨
  ∃ (x : Nat × Nat) (P' : Nat), e = .returned (.tuple #[.agg #[.int .u64 (hK x.1), .int .u64 (lK x.1), .bool true, .bool (sK x.1), .string ⟨#[]⟩, .int .u8 ((bits : Nat) + 1 : Int)], .pointer (some ⟨P', 0, none⟩), .bool true]) ∧ Hid (Chg (fun _ => False) w w' ∧ InCh h m x ∧ x.2 ≤ bits ∧ ∃ u m' h', SetAt w' P' u m' h' ∧ (∀ k, u.ownBlock = some k → w.heap.size ≤ k) ∧ m' ≤ m + 1 ∧ ∀ k, MemR m' h' k ↔ MemR m h k ∧ ¬ ((pfR x.1 bits).1 ≤ k ∧ k ≤ (pfR x.1 bits).2))
theorem Chg.trans' {F : Nat → Prop} {a b c : World} (h : Chg (fun _ => False) a b) (k : Chg F b c) (hF : ∀ q, q < a.heap.size → ¬ F q) : Chg (fun _ => False) a c :=
  ⟨k.os.trans h.os, k.tape.trans h.tape, k.output.trans h.output, Nat.le_trans h.size k.size, fun q hq _ => (k.block q (Nat.lt_of_lt_of_le hq h.size) (hF q hq)).trans (h.block q hq id)⟩
theorem set93 (W : World) (g : Nat) (cs : Array Value) (j : Nat) (v : Value) (hw : W.heap[g]? = some (.cells cs 93 (0, 0))) : (W.setCell ⟨g, j, none⟩ v).heap[g]? = some (.cells (cs.setIfInBounds j v) 93 (0, 0)) := by
  rw [setCell_eq_setRow W g j _ 93 (0, 0) v hw]
  exact setRow_heap W g _ _ 93 (0, 0) hw
theorem chg6 (F : Nat → Prop) (W : World) (g : Nat) (v0 v1 v2 v3 v4 v5 : Value) (hF : g < W.heap.size → F g) : Chg F W ((((((W.setCell ⟨g, 0, none⟩ v0).setCell ⟨g, 1, none⟩ v1).setCell ⟨g, 2, none⟩ v2).setCell ⟨g, 3, none⟩ v3).setCell ⟨g, 4, none⟩ v4).setCell ⟨g, 5, none⟩ v5) :=
  ((((((Chg.refl F W).setCell ⟨g, 0, none⟩ v0 hF).setCell ⟨g, 1, none⟩ v1 hF).setCell ⟨g, 2, none⟩ v2 hF).setCell ⟨g, 3, none⟩ v3 hF).setCell ⟨g, 4, none⟩ v4 hF).setCell ⟨g, 5, none⟩ v5 hF
theorem set6p (W : World) (g : Nat) (x0 x1 x2 x3 x4 x5 v0 v1 v2 v3 v4 v5 : Value) (h : W.heap[g]? = some (.cells #[x0, x1, x2, x3, x4, x5] 93 (0, 0))) : ((((((W.setCell ⟨g, 0, none⟩ v0).setCell ⟨g, 1, none⟩ v1).setCell ⟨g, 2, none⟩ v2).setCell ⟨g, 3, none⟩ v3).setCell ⟨g, 4, none⟩ v4).setCell ⟨g, 5, none⟩ v5).heap[g]? = some (.cells #[v0, v1, v2, v3, v4, v5] 93 (0, 0)) := by
  have h6 := set93 _ g _ 5 v5 (set93 _ g _ 4 v4 (set93 _ g _ 3 v3 (set93 _ g _ 2 v2 (set93 _ g _ 1 v1 (set93 W g _ 0 v0 h)))))
  rw [h6]
  simp
theorem inCh_ok {m bits : Nat} {h : Nat → Nat × Nat} (ho : ∀ i, i < m → okR (h i)) (hl : ∀ i, i < m → bits ≤ lenK (h i).1) {kx nx : Nat} (H : InCh h m (kx, nx)) : okK kx ∧ bits ≤ lenK kx := by
  obtain ⟨j, hj, m', g, C, l, hl', e⟩ := H
  have o := pfV_ok (ho j hj) C l hl'
  rw [e] at o
  refine ⟨o.1, ?_⟩
  have h1 := hl j hj
  unfold lenK at h1 ⊢
  cases hs : sK (h j).1 <;> rw [hs] at e
  · have e1 : (g l).1 % 4294967296 = kx := congrArg Prod.fst e
    have : ¬ 8589934592 ≤ (h j).1 := of_decide_eq_false hs
    rw [if_neg this] at h1
    rw [if_neg (by omega)]; exact h1
  · have e1 : 8589934592 + (g l).1 = kx := congrArg Prod.fst e
    have : 8589934592 ≤ (h j).1 := of_decide_eq_true hs
    rw [if_pos this] at h1
    rw [if_pos (by omega)]; exact h1
/-- A builder all of whose blocks are newer than a world. -/
def Bw (w0 : World) (B : Nat) (N : Nat) (S : Nat → Prop) (w : World) : Prop := w0.heap.size ≤ B ∧ Chg (fun _ => False) w0 w ∧ ∃ v1 v2, (∀ k, (v1.ownBlock = some k ∨ v2.ownBlock = some k) → w0.heap.size ≤ k) ∧ Bs w B v1 v2 N S
theorem Bw.stp {w0 w w' : World} {B N : Nat} {S : Nat → Prop} {v1 v2 : Value} (hB : w0.heap.size ≤ B) (C : Chg (fun _ => False) w0 w) (ho : ∀ k, (v1.ownBlock = some k ∨ v2.ownBlock = some k) → w0.heap.size ≤ k) (Z : Stp w B v1 v2 N S w') : Bw w0 B N S w' := by
  obtain ⟨v3, v4, M, H⟩ := Z
  refine ⟨hB, C.trans' M.chg (fun q hq e => ?_), v3, v4, fun k e => ?_, H⟩
  · rcases e with e | e
    · omega
    · have := ho q e; omega
  · rcases M.own k e with e | e
    · exact ho k e
    · have := C.size; omega
theorem s81n {W0 : World} (W : World) (B : Nat) (hB : B = W.heap.size) (P : Nat) (v : Value) (m : Nat) (h : Nat → Nat × Nat) (hm : m ≤ 40000000) (K : SetAt W P v m h) (C : Chg (fun _ => False) W0 W) : Calls Tryz.prog 81 #[.pointer (some ⟨B, 0, none⟩), .pointer (some ⟨P, 0, none⟩)] (W.alloc (.cells #[.slice none 0 0, .slice none 0 0, .slice none 0 0] 129)) fun e w' => e = .returned (.tuple #[]) ∧ Hid (Bw W0 B m (fun k => MemR m h k) w') ∧ (∀ (D : Nat) (cs : Array Value) (t : TypeId), W.heap[D]? = some (.cells cs t (0, 0)) → w'.heap[D]? = some (.cells cs t (0, 0))) := by
  subst hB
  refine (s81 W.heap.size (.slice none 0 0) (.slice none 0 0) 0 _ (by omega) P v m h hm _ (Bs.empty W) (SetAt.chg (F := fun _ => False) K ((Chg.refl _ _).alloc _) id (fun _ _ => id)) (fun k e q => by simp [Value.ownBlock] at q)).mono ?_
  rintro e w' ⟨rfl, Z⟩
  have hz := Bw.stp (w0 := W0) C.size (C.alloc _) (fun k q => by simp [Value.ownBlock] at q) Z
  refine ⟨rfl, by rwa [Nat.zero_add, show (fun k => False ∨ MemR m h k) = (fun k => MemR m h k) from funext fun k => by simp] at hz, fun D cs t q => ?_⟩
  have hy := Bw.stp (w0 := W) (Nat.le_refl _) ((Chg.refl _ _).alloc _) (fun k q => by simp [Value.ownBlock] at q) Z
  exact heap_chg hy.2.1 q id
theorem s75n {W0 : World} {B N : Nat} {S : Nat → Prop} (w : World) (H : Bw W0 B N S w) (hN : N ≤ 80000000) (W : World) (C : Chg (fun _ => False) w W) (a n : Nat) (oa : okK a) (hn : n ≤ lenK a) : Calls Tryz.prog 75 #[.pointer (some ⟨B, 0, none⟩), .agg #[.int .u64 (hK a), .int .u64 (lK a), .bool true, .bool (sK a), .string ⟨#[]⟩, .int .u8 ((n : Nat) + 1 : Int)]] W fun e w' => e = .returned (.tuple #[]) ∧ Hid (Bw W0 B (N + 1) (fun k => S k ∧ ¬ ((pfR a n).1 ≤ k ∧ k ≤ (pfR a n).2)) w') := by
  obtain ⟨hB, C0, v1, v2, ho, Hb⟩ := H
  refine (s75 B v1 v2 N S hN a n oa hn W (Bs.chg0 Hb C)).mono ?_
  rintro e w' ⟨rfl, Z⟩
  exact ⟨rfl, Bw.stp hB (C0.trans C) ho Z⟩
theorem c90n {W0 : World} {B N : Nat} {S : Nat → Prop} (w : World) (H : Bw W0 B N S w) (hN : N ≤ 40000000) (W : World) (C : Chg (fun _ => False) w W) : Calls Tryz.prog 90 #[.pointer (some ⟨B, 0, none⟩)] W fun e w' => ∃ P, e = .returned (.tuple #[.pointer (some ⟨P, 0, none⟩), .nilIface]) ∧ Hid (∃ u m h, Chg (fun _ => False) W0 w' ∧ SetAt w' P u m h ∧ W0.heap.size ≤ P ∧ (∀ k, u.ownBlock = some k → W0.heap.size ≤ k) ∧ (∀ k, MemR m h k ↔ S k) ∧ m ≤ N) := by
  obtain ⟨hB, C0, v1, v2, ho, Hb⟩ := H
  have CW := C0.trans C
  refine (c90 B v1 v2 N S hN W (Bs.chg0 Hb C)).mono ?_
  rintro e w' ⟨P, rfl, Z⟩
  obtain ⟨v, u, m, h, I⟩ := Z.out
  refine ⟨P, rfl, u, m, h, CW.trans' I.mv.chg (fun q hq e => ?_), I.set, Nat.le_trans CW.size I.hP, fun k e => Nat.le_trans CW.size (I.hu k e), I.mem, I.le⟩
  rcases e with e | e
  · omega
  · have := ho q e; omega
def bfA (o : Option (Nat × Nat)) : Array Value := (bfL o).toArray
set_option maxRecDepth 100000 in
set_option maxHeartbeats 4000000 in
theorem c42 (P : Nat) (v : Value) (m : Nat) (h : Nat → Nat × Nat) (hm : m ≤ 20000000) (bits : Nat) (hb : bits ≤ 128) (hl : ∀ i, i < m → bits ≤ lenK (h i).1) (w : World) (K : SetAt w P v m h) :
    Calls Tryz.prog 42 #[.pointer (some ⟨P, 0, none⟩), .int .u8 ((bits : Nat) : Int)] w (FrP w m h P bits) := by
  obtain ⟨p, c, rfl⟩ := K.own.form
  have HK : Hid _ := K
  have cP := K.cell
  have hP := K.lt
  have HL : Hid _ := hl
  clear K hl
  go_enter Tryz.func42, Tryz.ntmps42

  go_wp2_with fail
  go_loopw [19] (fun t19 wr => ∃ (i : Nat) (bf : Option (Nat × Nat)), t19 = .int .i64 i ∧ i ≤ m ∧ Hid (Chg (fun _ => False) w wr ∧ wr.heap[w.heap.size]? = some (.cells (bfA none) 93 (0, 0)) ∧ wr.heap[w.heap.size + 1]? = some (.cells (bfA bf) 93 (0, 0)) ∧ BfI h i (fun _ => (0, 0)) 0 bits bf))
    (fun t19 _ => m - (intOf t19).toNat)
  case atStart =>
    exact ⟨0, none, rfl, Nat.zero_le _, by (repeat (with_reducible first | exact Chg.refl _ _ | refine Chg.plus ?_ _ _ | refine Chg.alloc ?_ _ | refine Chg.drew ?_)), blk_alloc (blk_new rfl) _, blk_new (by simp), .start h _ bits⟩
  case round =>
    clear cP hP
    obtain ⟨i, bf, rfl, hi, X⟩ := hrel
    obtain ⟨W0, rfl⟩ : ∃ x, x = wr := ⟨_, rfl⟩
    by_cases hlt : i < m
    · have hrow : ∃ G, p = some ⟨G, 0, none⟩ ∧ W0.rangeAt G (i * 10) (rcL (h i)) ∧ m ≤ c := by
        rcases HK.out.own.chg X.out.1 (fun _ _ => id) with ⟨_, z⟩ | ⟨G, cap, e, H⟩
        · omega
        · simp only [Value.slice.injEq, true_and] at e
          have := H.row i hlt
          rw [Nat.zero_add] at this
          exact ⟨G, e.1, this, by rw [e.2]; exact H.le⟩
      obtain ⟨G, rfl, ra, la⟩ := hrow
      obtain ⟨ca0, ca1, ca2, ca3, ca4, ca5, ca6, ca7, ca8, ca9⟩ := rc_cells ra
      have hG : G < W0.heap.size := World.block_lt_of_cell? _ _ ca0
      have ok : okR (h i) := HK.out.can.ok i hlt
      have hB7 : w.heap.size + 1 < W0.heap.size := (Array.getElem?_eq_some_iff.1 X.out.2.2.1).1
      clear ra
      go_wp2_with fail
      refine (c62 (h i) ok (fun _ => (0, 0)) _).mono ?_
      rintro e w2 ⟨v2, m2, g2, rfl, Y⟩
      obtain ⟨p2, c2, rfl, _⟩ := Y.out.2.1.form
      have HC1 : Hid (Chg (fun _ => False) W0 w2) := Chg.trans (by (repeat (with_reducible first | exact Chg.refl _ _ | refine Chg.plus ?_ _ _ | refine Chg.alloc ?_ _ | refine Chg.drew ?_))) (chg_nil Y.out.1)
      have HO2 : Hid (OwnDV layP 93 w2 (.slice p2 m2 c2) m2 (fun j => pfV (sK (h i).1) (g2 j))) := by have := Y.out.2.1; rw [appF_zero, Nat.zero_add] at this; exact this
      have HCV : Hid (ChV (vK (h i).1) (vK (h i).2) m2 g2) := Y.out.2.2.1
      have hb2 : m2 ≤ 257 := Nat.le_trans Y.out.2.2.2.1 (bdV_le 128 _ _)
      have HN2 : Hid (∀ k, (Value.slice p2 m2 c2).ownBlock = some k → W0.heap.size ≤ k) := fun k e => by
        have hz := HC1.out.size
        rcases Y.out.2.2.2.2 with q | ⟨k', q, l⟩
        · rw [Nat.zero_add] at q; rw [q] at e; simp [Value.ownBlock] at e
        · rw [Nat.zero_add] at q; rw [q] at e; simp only [Option.some.injEq] at e; simp at l; omega
      have HBI : Hid (BfI h i g2 0 bits bf) := X.out.2.2.2.into g2
      clear Y ca0 ca1 ca2 ca3 ca4 ca5 ca6 ca7 ca8 ca9
      rw [Nat.zero_add]
      have HW0 : Hid (Chg (fun _ => False) w W0 ∧ W0.heap[w.heap.size]? = some (.cells (bfA none) 93 (0, 0)) ∧ W0.heap[w.heap.size + 1]? = some (.cells (bfA bf) 93 (0, 0))) := ⟨X.out.1, X.out.2.1, X.out.2.2.1⟩
      clear X
      have HCN : Hid (∀ k, (Value.slice p2 m2 c2).ownBlock = some k → k ≠ w.heap.size + 1) := fun k e => by have := HN2.out k e; omega
      go_wp2_with fail
      go_loopw [26] (fun t26 wx => ∃ (j : Nat) (bf : Option (Nat × Nat)), t26 = .int .i64 j ∧ j ≤ m2 ∧ Hid (Chg (fun _ => False) w wx ∧ wx.heap[w.heap.size]? = some (.cells (bfA none) 93 (0, 0)) ∧ wx.heap[w.heap.size + 1]? = some (.cells (bfA bf) 93 (0, 0)) ∧ OwnDV layP 93 wx (.slice p2 m2 c2) m2 (fun j => pfV (sK (h i).1) (g2 j)) ∧ BfI h i g2 j bits bf))
        (fun t26 _ => m2 - (intOf t26).toNat)
      case atStart =>
        exact ⟨0, bf, rfl, Nat.zero_le _, HW0.out.1.trans (HC1.out.trans (by (repeat (with_reducible first | exact Chg.refl _ _ | refine Chg.plus ?_ _ _ | refine Chg.alloc ?_ _ | refine Chg.drew ?_)))), heap_chg (HC1.out.trans (by (repeat (with_reducible first | exact Chg.refl _ _ | refine Chg.plus ?_ _ _ | refine Chg.alloc ?_ _ | refine Chg.drew ?_)))) HW0.out.2.1 id, heap_chg (HC1.out.trans (by (repeat (with_reducible first | exact Chg.refl _ _ | refine Chg.plus ?_ _ _ | refine Chg.alloc ?_ _ | refine Chg.drew ?_)))) HW0.out.2.2 id, HO2.out.chg (F := fun _ => False) (by (repeat (with_reducible first | exact Chg.refl _ _ | refine Chg.plus ?_ _ _ | refine Chg.alloc ?_ _ | refine Chg.drew ?_))) (fun _ _ => id), HBI.out⟩
      case round =>
        obtain ⟨j, bf', rfl, hj, X⟩ := hrel
        obtain ⟨W1, rfl⟩ : ∃ x, x = wr := ⟨_, rfl⟩
        by_cases hlt2 : j < m2
        · obtain ⟨pr, kr, er, lr, row⟩ := X.out.2.2.2.1.rd
          simp only [Value.slice.injEq, true_and] at er
          obtain ⟨er1, er2⟩ := er
          obtain ⟨G2, o2, er3, row2⟩ := row (by omega)
          subst er2 er1 er3
          have okp : okP (pfV (sK (h i).1) (g2 j)) := pfV_ok ok HCV.out j hlt2
          have ra := row2 j hlt2
          obtain ⟨k, n, hkn⟩ : ∃ k n, pfV (sK (h i).1) (g2 j) = (k, n) := ⟨_, _, rfl⟩
          have ra2 : W1.rangeAt G2 (o2 + j * 6) (pfL k n) := by
            have e := ra
            simp only [hkn] at e
            exact e
          rw [hkn] at okp
          have hn : n ≤ 128 := okp.2.2
          have HKN : Hid _ := hkn
          obtain ⟨ca0, ca1, ca2, ca3, ca4, ca5⟩ := pf_cells ra2
          have hG2 : G2 < W1.heap.size := World.block_lt_of_cell? _ _ ca0
          have HBX : Hid _ := X.out.2.2.1
          have hB1 : w.heap.size + 1 < W1.heap.size := (Array.getElem?_eq_some_iff.1 X.out.2.2.1).1
          clear row row2 ra ra2 okp hkn
          by_cases q1 : bits < n
          · have SK : bf' = none → bits < (pfV (sK (h i).1) (g2 j)).2 := fun _ => by rw [HKN.out]; exact q1
            have HSK : Hid _ := SK
            clear SK
            have q2 : decide ((bits : Int) < (n : Int)) = true := decide_eq_true (by omega)
            go_wp2_with (first | (go_at_call 44; (with_reducible refine (k44 k n hn _).mono ?_); rintro e w' ⟨rfl, dd, oo, rfl⟩))
            go_roundw
            case rel => exact ⟨j + 1, bf', by go_num, by omega, X.out.1.trans (by (repeat (with_reducible first | exact Chg.refl _ _ | refine Chg.plus ?_ _ _ | refine Chg.alloc ?_ _ | refine Chg.drew ?_))), heap_chg (F := fun _ => False) (by (repeat (with_reducible first | exact Chg.refl _ _ | refine Chg.plus ?_ _ _ | refine Chg.alloc ?_ _ | refine Chg.drew ?_))) X.out.2.1 id, heap_chg (F := fun _ => False) (by (repeat (with_reducible first | exact Chg.refl _ _ | refine Chg.plus ?_ _ _ | refine Chg.alloc ?_ _ | refine Chg.drew ?_))) X.out.2.2.1 id, X.out.2.2.2.1.chg (F := fun _ => False) (by (repeat (with_reducible first | exact Chg.refl _ _ | refine Chg.plus ?_ _ _ | refine Chg.alloc ?_ _ | refine Chg.drew ?_))) (fun _ _ => id), X.out.2.2.2.2.skip HSK.out⟩
            case measure => simp [intOf]; omega
          · have q2 : decide ((bits : Int) < (n : Int)) = false := decide_eq_false (by omega)
            cases bf' with
            | none =>
              have hz := rangeAt_of _ _ _ 93 HBX.out 0 (bfL none) (fun j hj => by rw [Nat.zero_add, ← Array.getElem?_toList]; rfl)
              have cb0 := hz 0 _ rfl
              have cb1 := hz 1 _ rfl
              have cb2 := hz 2 _ rfl
              have cb3 := hz 3 _ rfl
              have cb4 := hz 4 _ rfl
              have cb5 := hz 5 _ rfl
              simp only [Nat.zero_add] at cb0 cb1 cb2 cb3 cb4 cb5
              have fb0 := fr_at HBX.out 0
              have fb1 := fr_at HBX.out 1
              have fb2 := fr_at HBX.out 2
              have fb3 := fr_at HBX.out 3
              have fb4 := fr_at HBX.out 4
              have fb5 := fr_at HBX.out 5
              clear hz
              go_upto_region 9 with (first | (go_at_call 44; (with_reducible refine (k44 k n hn _).mono ?_); rintro e w' ⟨rfl, dd, oo, rfl⟩))
              refine wp_region_plus (by kernel_rfl) (by kernel_rfl) ?_
              repeat (go_big_quiet_step (first | (go_at_call 43; (with_reducible exact Calls.plus_of (c43z _))) | (go_at_call 89; (with_reducible exact Calls.plus_of (c89z _)))))
              refine wpQuiet_nil ?_
              intro _ hq
              obtain ⟨⟨dq, oq⟩, rfl⟩ := hq
              have HTK : Hid (BfI h i g2 (j + 1) bits (some (k, n))) := by
                have := BfI.take (f := h) (i := i) (g := g2) (j := j) (bits := bits) (by rw [HKN.out]; show n ≤ bits; omega)
                rw [HKN.out] at this
                exact this
              by_cases q3 : n = bits
              · subst q3
                go_wp2_with (first | (go_at_call 44; (with_reducible refine (k44 k n hn _).mono ?_); rintro e w' ⟨rfl, dd, oo, rfl⟩))
                go_roundw
                case rel => exact ⟨i + 1, some (k, n), by go_num, by omega, (X.out.1.trans' (chg6 (fun q => q = w.heap.size + 1) W1 (w.heap.size + 1) _ _ _ _ _ _ (fun _ => rfl)) (by intro q hq e; omega)).trans (by (repeat (with_reducible first | exact Chg.refl _ _ | refine Chg.plus ?_ _ _ | refine Chg.alloc ?_ _ | refine Chg.drew ?_))), heap_chg (F := fun _ => False) (by (repeat (with_reducible first | exact Chg.refl _ _ | refine Chg.plus ?_ _ _ | refine Chg.alloc ?_ _ | refine Chg.drew ?_))) (heap_chg (chg6 (fun q => q = w.heap.size + 1) W1 (w.heap.size + 1) _ _ _ _ _ _ (fun _ => rfl)) X.out.2.1 (by omega)) id, heap_chg (F := fun _ => False) (by (repeat (with_reducible first | exact Chg.refl _ _ | refine Chg.plus ?_ _ _ | refine Chg.alloc ?_ _ | refine Chg.drew ?_))) (set6p W1 (w.heap.size + 1) _ _ _ _ _ _ _ _ _ _ _ _ HBX.out) id, HTK.out.brk HCV.out (by omega) _⟩
                case measure => simp [intOf]; omega
              · have q4 : ((n : Int) == (bits : Int)) = false := by rw [beq_eq_false_iff_ne]; omega
                have HQ3 : Hid _ := q3
                clear q3
                go_wp2_with (first | (go_at_call 44; (with_reducible refine (k44 k n hn _).mono ?_); rintro e w' ⟨rfl, dd, oo, rfl⟩))
                go_roundw
                case rel => exact ⟨j + 1, some (k, n), by go_num, by omega, (X.out.1.trans' (chg6 (fun q => q = w.heap.size + 1) W1 (w.heap.size + 1) _ _ _ _ _ _ (fun _ => rfl)) (by intro q hq e; omega)).trans (by (repeat (with_reducible first | exact Chg.refl _ _ | refine Chg.plus ?_ _ _ | refine Chg.alloc ?_ _ | refine Chg.drew ?_))), heap_chg (F := fun _ => False) (by (repeat (with_reducible first | exact Chg.refl _ _ | refine Chg.plus ?_ _ _ | refine Chg.alloc ?_ _ | refine Chg.drew ?_))) (heap_chg (chg6 (fun q => q = w.heap.size + 1) W1 (w.heap.size + 1) _ _ _ _ _ _ (fun _ => rfl)) X.out.2.1 (by omega)) id, heap_chg (F := fun _ => False) (by (repeat (with_reducible first | exact Chg.refl _ _ | refine Chg.plus ?_ _ _ | refine Chg.alloc ?_ _ | refine Chg.drew ?_))) (set6p W1 (w.heap.size + 1) _ _ _ _ _ _ _ _ _ _ _ _ HBX.out) id, (X.out.2.2.2.1.chg (chg6 (fun q => q = w.heap.size + 1) W1 (w.heap.size + 1) _ _ _ _ _ _ (fun _ => rfl)) (fun q e => HCN.out q e)).chg (F := fun _ => False) (by (repeat (with_reducible first | exact Chg.refl _ _ | refine Chg.plus ?_ _ _ | refine Chg.alloc ?_ _ | refine Chg.drew ?_))) (fun _ _ => id), HTK.out⟩
                case measure => simp [intOf]; omega
            | some y =>
              obtain ⟨ky, ny⟩ := y
              have hny : ny ≤ 128 := Nat.le_trans X.out.2.2.2.2.2 hb
              have hz : W1.rangeAt (w.heap.size + 1) 0 (pfL ky ny) := rangeAt_of _ _ _ 93 HBX.out 0 (bfL (some (ky, ny))) (fun j hj => by rw [Nat.zero_add, ← Array.getElem?_toList]; rfl)
              obtain ⟨cb0, cb1, cb2, cb3, cb4, cb5⟩ := pf_cells hz
              simp only [Nat.zero_add] at cb0 cb1 cb2 cb3 cb4 cb5
              have fb0 := fr_at HBX.out 0
              have fb1 := fr_at HBX.out 1
              have fb2 := fr_at HBX.out 2
              have fb3 := fr_at HBX.out 3
              have fb4 := fr_at HBX.out 4
              have fb5 := fr_at HBX.out 5
              clear hz
              have HTK : Hid (BfI h i g2 (j + 1) bits (some (k, n))) := by
                have := BfI.take (f := h) (i := i) (g := g2) (j := j) (bits := bits) (by rw [HKN.out]; show n ≤ bits; omega)
                rw [HKN.out] at this
                exact this
              by_cases q5 : ny < n
              · have q6 : decide ((ny : Int) < (n : Int)) = true := decide_eq_true (by omega)
                go_upto_region 9 with (first | (go_at_call 44; (with_reducible refine (k44 k n hn _).mono ?_); rintro e w' ⟨rfl, dd, oo, rfl⟩))
                refine wp_region_plus (by kernel_rfl) (by kernel_rfl) ?_
                repeat (go_big_quiet_step (first | (go_at_call 43; (with_reducible exact Calls.plus_of (k43 ky ny _))) | (go_at_call 89; (with_reducible exact Calls.plus_of (k89 ky _))) | (go_at_call 44; (with_reducible exact Calls.plus_of (k44 k n hn _))) | (go_at_call 44; (with_reducible exact Calls.plus_of (k44 ky ny hny _)))))
                refine wpQuiet_nil ?_
                intro _ hq
                obtain ⟨⟨dq, oq⟩, rfl⟩ := hq
                by_cases q3 : n = bits
                · subst q3
                  go_wp2_with (first | (go_at_call 44; (with_reducible refine (k44 k n hn _).mono ?_); rintro e w' ⟨rfl, dd, oo, rfl⟩))
                  go_roundw
                  case rel => exact ⟨i + 1, some (k, n), by go_num, by omega, (X.out.1.trans' (chg6 (fun q => q = w.heap.size + 1) W1 (w.heap.size + 1) _ _ _ _ _ _ (fun _ => rfl)) (by intro q hq e; omega)).trans (by (repeat (with_reducible first | exact Chg.refl _ _ | refine Chg.plus ?_ _ _ | refine Chg.alloc ?_ _ | refine Chg.drew ?_))), heap_chg (F := fun _ => False) (by (repeat (with_reducible first | exact Chg.refl _ _ | refine Chg.plus ?_ _ _ | refine Chg.alloc ?_ _ | refine Chg.drew ?_))) (heap_chg (chg6 (fun q => q = w.heap.size + 1) W1 (w.heap.size + 1) _ _ _ _ _ _ (fun _ => rfl)) X.out.2.1 (by omega)) id, heap_chg (F := fun _ => False) (by (repeat (with_reducible first | exact Chg.refl _ _ | refine Chg.plus ?_ _ _ | refine Chg.alloc ?_ _ | refine Chg.drew ?_))) (set6p W1 (w.heap.size + 1) _ _ _ _ _ _ _ _ _ _ _ _ HBX.out) id, HTK.out.brk HCV.out (by omega) _⟩
                  case measure => simp [intOf]; omega
                · have q4 : ((n : Int) == (bits : Int)) = false := by rw [beq_eq_false_iff_ne]; omega
                  have HQ3 : Hid _ := q3
                  clear q3
                  go_wp2_with (first | (go_at_call 44; (with_reducible refine (k44 k n hn _).mono ?_); rintro e w' ⟨rfl, dd, oo, rfl⟩))
                  go_roundw
                  case rel => exact ⟨j + 1, some (k, n), by go_num, by omega, (X.out.1.trans' (chg6 (fun q => q = w.heap.size + 1) W1 (w.heap.size + 1) _ _ _ _ _ _ (fun _ => rfl)) (by intro q hq e; omega)).trans (by (repeat (with_reducible first | exact Chg.refl _ _ | refine Chg.plus ?_ _ _ | refine Chg.alloc ?_ _ | refine Chg.drew ?_))), heap_chg (F := fun _ => False) (by (repeat (with_reducible first | exact Chg.refl _ _ | refine Chg.plus ?_ _ _ | refine Chg.alloc ?_ _ | refine Chg.drew ?_))) (heap_chg (chg6 (fun q => q = w.heap.size + 1) W1 (w.heap.size + 1) _ _ _ _ _ _ (fun _ => rfl)) X.out.2.1 (by omega)) id, heap_chg (F := fun _ => False) (by (repeat (with_reducible first | exact Chg.refl _ _ | refine Chg.plus ?_ _ _ | refine Chg.alloc ?_ _ | refine Chg.drew ?_))) (set6p W1 (w.heap.size + 1) _ _ _ _ _ _ _ _ _ _ _ _ HBX.out) id, (X.out.2.2.2.1.chg (chg6 (fun q => q = w.heap.size + 1) W1 (w.heap.size + 1) _ _ _ _ _ _ (fun _ => rfl)) (fun q e => HCN.out q e)).chg (F := fun _ => False) (by (repeat (with_reducible first | exact Chg.refl _ _ | refine Chg.plus ?_ _ _ | refine Chg.alloc ?_ _ | refine Chg.drew ?_))) (fun _ _ => id), HTK.out⟩
                  case measure => simp [intOf]; omega
              · have q6 : decide ((ny : Int) < (n : Int)) = false := decide_eq_false (by omega)
                go_upto_region 9 with (first | (go_at_call 44; (with_reducible refine (k44 k n hn _).mono ?_); rintro e w' ⟨rfl, dd, oo, rfl⟩))
                refine wp_region_plus (by kernel_rfl) (by kernel_rfl) ?_
                repeat (go_big_quiet_step (first | (go_at_call 43; (with_reducible exact Calls.plus_of (k43 ky ny _))) | (go_at_call 89; (with_reducible exact Calls.plus_of (k89 ky _))) | (go_at_call 44; (with_reducible exact Calls.plus_of (k44 k n hn _))) | (go_at_call 44; (with_reducible exact Calls.plus_of (k44 ky ny hny _)))))
                refine wpQuiet_nil ?_
                intro _ hq
                obtain ⟨⟨dq, oq⟩, rfl⟩ := hq
                go_wp2_with fail
                go_roundw
                case rel => exact ⟨j + 1, some (ky, ny), by go_num, by omega, X.out.1.trans (by (repeat (with_reducible first | exact Chg.refl _ _ | refine Chg.plus ?_ _ _ | refine Chg.alloc ?_ _ | refine Chg.drew ?_))), heap_chg (F := fun _ => False) (by (repeat (with_reducible first | exact Chg.refl _ _ | refine Chg.plus ?_ _ _ | refine Chg.alloc ?_ _ | refine Chg.drew ?_))) X.out.2.1 id, heap_chg (F := fun _ => False) (by (repeat (with_reducible first | exact Chg.refl _ _ | refine Chg.plus ?_ _ _ | refine Chg.alloc ?_ _ | refine Chg.drew ?_))) X.out.2.2.1 id, X.out.2.2.2.1.chg (F := fun _ => False) (by (repeat (with_reducible first | exact Chg.refl _ _ | refine Chg.plus ?_ _ _ | refine Chg.alloc ?_ _ | refine Chg.drew ?_))) (fun _ _ => id), X.out.2.2.2.2.skip (fun q => by cases q)⟩
                case measure => simp [intOf]; omega
        · obtain rfl : j = m2 := by omega
          go_wp2_with fail
          go_roundw
          case rel => exact ⟨i + 1, bf', by go_num, by omega, X.out.1, X.out.2.1, X.out.2.2.1, X.out.2.2.2.2.next HCV.out _⟩
          case measure => simp [intOf]; omega
    · obtain rfl : i = m := by omega
      have HBX : Hid _ := X.out.2.2.1
      have hB1 : w.heap.size + 1 < W0.heap.size := (Array.getElem?_eq_some_iff.1 X.out.2.2.1).1
      cases bf with
      | none =>
        have hz := rangeAt_of _ _ _ 93 HBX.out 0 (bfL none) (fun j hj => by rw [Nat.zero_add, ← Array.getElem?_toList]; rfl)
        have cb0 := hz 0 _ rfl
        have cb1 := hz 1 _ rfl
        have cb2 := hz 2 _ rfl
        have cb3 := hz 3 _ rfl
        have cb4 := hz 4 _ rfl
        have cb5 := hz 5 _ rfl
        simp only [Nat.zero_add] at cb0 cb1 cb2 cb3 cb4 cb5
        have hy := rangeAt_of _ _ _ 93 X.out.2.1 0 (bfL none) (fun j hj => by rw [Nat.zero_add, ← Array.getElem?_toList]; rfl)
        have ce0 := hy 0 _ rfl
        have ce1 := hy 1 _ rfl
        have ce2 := hy 2 _ rfl
        have ce3 := hy 3 _ rfl
        have ce4 := hy 4 _ rfl
        have ce5 := hy 5 _ rfl
        simp only [Nat.zero_add] at ce0 ce1 ce2 ce3 ce4 ce5
        have hB0 : w.heap.size < W0.heap.size := by omega
        clear hy
        have fb0 := fr_at X.out.2.1 0
        have fb1 := fr_at X.out.2.1 1
        have fb2 := fr_at X.out.2.1 2
        have fb3 := fr_at X.out.2.1 3
        have fb4 := fr_at X.out.2.1 4
        have fb5 := fr_at X.out.2.1 5
        clear hz
        go_wp2_with (first | (go_at_call 43; (with_reducible refine (c43z _).mono ?_); rintro e w' ⟨rfl, dd, oo, rfl⟩) | (go_at_call 89; (with_reducible refine (c89z _).mono ?_); rintro e w' ⟨rfl, dd, oo, rfl⟩))
        refine bodyPost_ret (v := .tuple #[.agg #[.int .u64 0, .int .u64 0, .bool false, .bool false, .string ⟨#[]⟩, .int .u8 0], .pointer (some ⟨P, 0, none⟩), .bool false]) (by simp [results, Tryz.results42, go_sem, IntWalk.iteOmega, ↓IntWalk.iteOmega, ce0, ce1, ce2, ce3, ce4, ce5, hB0]) rfl (.inl ⟨rfl, ?_, fun x q => X.out.2.2.2.1 x q⟩)
        exact (X.out.1.trans' (chg6 (fun q => q = w.heap.size) W0 w.heap.size _ _ _ _ _ _ (fun _ => rfl)) (by intro q hq e; omega)).trans (by (repeat (with_reducible first | exact Chg.refl _ _ | refine Chg.plus ?_ _ _ | refine Chg.alloc ?_ _ | refine Chg.drew ?_)))
      | some x =>
        obtain ⟨kx, nx⟩ := x
        have HIN : Hid (InCh h i (kx, nx) ∧ nx ≤ bits) := by
          have q := X.out.2.2.2
          rcases q.1 with z | ⟨l, z, _⟩
          · exact ⟨z, q.2⟩
          · omega
        have hkb : okK kx ∧ bits ≤ lenK kx := inCh_ok HK.out.can.ok HL.out HIN.out.1
        have okx := hkb.1
        have hbx := hkb.2
        have hz : W0.rangeAt (w.heap.size + 1) 0 (pfL kx nx) := rangeAt_of _ _ _ 93 HBX.out 0 (bfL (some (kx, nx))) (fun j hj => by rw [Nat.zero_add, ← Array.getElem?_toList]; rfl)
        obtain ⟨cb0, cb1, cb2, cb3, cb4, cb5⟩ := pf_cells hz
        simp only [Nat.zero_add] at cb0 cb1 cb2 cb3 cb4 cb5
        clear hz
        go_upto_region 16 with (first | (go_at_call 43; (with_reducible refine (k43 kx nx _).mono ?_); rintro e w' ⟨rfl, dd, oo, rfl⟩) | (go_at_call 89; (with_reducible refine (k89 kx _).mono ?_); rintro e w' ⟨rfl, dd, oo, rfl⟩))
        go_cut [12] from 60 to 64 (fun t12 wx => ∃ D, t12 = .pointer (some ⟨D, 0, none⟩) ∧ Hid (Chg (fun _ => False) W0 wx ∧ wx.heap[D]? = some (.cells #[.int .u64 (hK kx), .int .u64 (lK kx), .bool true, .bool (sK kx), .string ⟨#[]⟩, .int .u8 ((bits : Nat) + 1 : Int)] 93 (0, 0)) ∧ D + 1 = wx.heap.size))
        case first =>
          go_wp2_with (first | (go_at_call 43; (with_reducible refine (k43 kx nx _).mono ?_); rintro e w' ⟨rfl, dd, oo, rfl⟩) | (go_at_call 54; (with_reducible refine (k54 kx bits okx hbx _).mono ?_); rintro e w' ⟨rfl, dd, oo, rfl⟩))
          go_meet
          case rel => exact ⟨_, rfl, by (repeat (with_reducible first | exact Chg.refl _ _ | refine Chg.plus ?_ _ _ | refine Chg.alloc ?_ _ | refine Chg.drew ?_)), blk_new (by simp), by simp⟩
        case rest =>
          obtain ⟨D, rfl, Z0⟩ := hcut
          go_wp2_with fail
          with_reducible refine (s81n (W0 := wc) wc _ rfl P (.slice p i c) i h (by omega) ?_ (Chg.refl _ _)).mono ?_
          · exact SetAt.chg (F := fun _ => False) HK.out (X.out.1.trans Z0.out.1) id (fun _ _ => id)
          rintro e w2 ⟨rfl, Z, hD2⟩
          have hBx : w.heap.size < W0.heap.size := by omega
          have HX1 : Hid (Chg (fun _ => False) w W0 ∧ W0.heap[w.heap.size]? = some (.cells (bfA none) 93 (0, 0))) := ⟨X.out.1, X.out.2.1⟩
          have HD := hD2 D _ 93 Z0.out.2.1
          have hDl : D < w2.heap.size := (Array.getElem?_eq_some_iff.1 HD).1
          have hz := rangeAt_of _ _ _ 93 HD 0 (pfL kx bits) (fun j hj => by rw [Nat.zero_add, ← Array.getElem?_toList]; rfl)
          obtain ⟨cd0, cd1, cd2, cd3, cd4, cd5⟩ := pf_cells hz
          simp only [Nat.zero_add] at cd0 cd1 cd2 cd3 cd4 cd5
          clear X cb0 cb1 cb2 cb3 cb4 cb5 hB1 HBX hz
          go_wp2_with fail
          with_reducible refine (s75n w2 Z.out (by omega) _ (Chg.refl _ _) kx bits okx hbx).mono ?_
          rintro e w3 ⟨rfl, Z3⟩
          clear cd0 cd1 cd2 cd3 cd4 cd5
          go_wp2_with fail
          refine (c90n w3 Z3.out (by omega) _ (Chg.refl _ _)).mono ?_
          rintro e w4 ⟨P', rfl, Z4⟩
          obtain ⟨u, m', h', y1, y2, y3, y4, y5, y6⟩ := Z4.out
          have HD4 := heap_chg y1 Z0.out.2.1 id
          have hD4 : D < w4.heap.size := (Array.getElem?_eq_some_iff.1 HD4).1
          have hz := rangeAt_of _ _ _ 93 HD4 0 (pfL kx bits) (fun j hj => by rw [Nat.zero_add, ← Array.getElem?_toList]; rfl)
          obtain ⟨cd0, cd1, cd2, cd3, cd4, cd5⟩ := pf_cells hz
          simp only [Nat.zero_add] at cd0 cd1 cd2 cd3 cd4 cd5
          have HE := heap_chg y1 (heap_chg Z0.out.1 HX1.out.2 id) id
          have hB0 : w.heap.size < w4.heap.size := (Array.getElem?_eq_some_iff.1 HE).1
          have hy := rangeAt_of _ _ _ 93 HE 0 (bfL none) (fun j hj => by rw [Nat.zero_add, ← Array.getElem?_toList]; rfl)
          have ce0 := hy 0 _ rfl
          have ce1 := hy 1 _ rfl
          have ce2 := hy 2 _ rfl
          have ce3 := hy 3 _ rfl
          have ce4 := hy 4 _ rfl
          have ce5 := hy 5 _ rfl
          simp only [Nat.zero_add] at ce0 ce1 ce2 ce3 ce4 ce5
          have fb0 := fr_at HE 0
          have fb1 := fr_at HE 1
          have fb2 := fr_at HE 2
          have fb3 := fr_at HE 3
          have fb4 := fr_at HE 4
          have fb5 := fr_at HE 5
          have HFIN : Hid (Chg (fun _ => False) w w4 ∧ SetAt w4 P' u m' h' ∧ w.heap.size < P' ∧ (∀ k, u.ownBlock = some k → w.heap.size < k) ∧ m' ≤ i + 1 ∧ ∀ k, MemR m' h' k ↔ MemR i h k ∧ ¬ ((pfR kx bits).1 ≤ k ∧ k ≤ (pfR kx bits).2)) := by
            have z := Z0.out.1.size
            exact ⟨HX1.out.1.trans (Z0.out.1.trans y1), y2, by omega, fun k e => by have := y4 k e; omega, y6, y5⟩
          clear y1 y2 y3 y4 y5 y6 Z4 Z3 Z HE HD4 hz hy HD hDl
          go_wp2_with fail
          refine bodyPost_ret (v := .tuple #[.agg #[.int .u64 (hK kx), .int .u64 (lK kx), .bool true, .bool (sK kx), .string ⟨#[]⟩, .int .u8 ((bits : Nat) + 1 : Int)], .pointer (some ⟨P', 0, none⟩), .bool true]) (by simp [results, Tryz.results42, go_sem, IntWalk.iteOmega, ↓IntWalk.iteOmega, ce0, ce1, ce2, ce3, ce4, ce5, hB0]) rfl (.inr ⟨(kx, nx), P', rfl, ?_, HIN.out.1, HIN.out.2, u, m', h', ?_, fun k e => Nat.le_of_lt (HFIN.out.2.2.2.1 k e), HFIN.out.2.2.2.2.1, HFIN.out.2.2.2.2.2⟩)
          · exact (HFIN.out.1.trans' (chg6 (fun q => q = w.heap.size) w4 w.heap.size _ _ _ _ _ _ (fun _ => rfl)) (by intro q hq e; omega)).trans (by (repeat (with_reducible first | exact Chg.refl _ _ | refine Chg.plus ?_ _ _ | refine Chg.alloc ?_ _ | refine Chg.drew ?_)))
          · exact (HFIN.out.2.1.chg (chg6 (fun q => q = w.heap.size) w4 w.heap.size _ _ _ _ _ _ (fun _ => rfl)) (by have := HFIN.out.2.2.1; omega) (fun k e q => by have := HFIN.out.2.2.2.1 k e; omega)).chg (F := fun _ => False) (by (repeat (with_reducible first | exact Chg.refl _ _ | refine Chg.plus ?_ _ _ | refine Chg.alloc ?_ _ | refine Chg.drew ?_))) id (fun _ _ => id)
end Go.Proofs.YtmoabfpdlbngeaaGreatDoor
end
