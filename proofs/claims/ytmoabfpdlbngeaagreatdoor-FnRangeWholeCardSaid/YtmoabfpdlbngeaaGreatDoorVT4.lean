/-
  Part of the proofs on the laws of pub-addresssets: joined texts (T4, T5).
-/
import Derived.Test.YtmoabfpdlbngeaaGreatDoorVT3
section
namespace Go.Proofs.YtmoabfpdlbngeaaGreatDoor
open Go.RowKit
set_option maxHeartbeats 400000
set_option linter.unusedVariables false
set_option linter.unusedSimpArgs false
/-- What impl.Free hands back: no prefix fits, or one that the set S has and what is left without it. -/
def FreeP (w : World) (S : Nat → Prop) (bits : Nat) (e : Ending) (w' : World) : Prop :=
  (e = .returned (.tuple #[.agg #[.bool false, .int .u64 0, .int .u64 0, .int .i64 0], .slice none 0 0, .bool false]) ∧ Hid (Chg (fun _ => False) w w' ∧ ∃ m h, CanonR m h ∧ (∀ k, MemR m h k ↔ S k) ∧ ∀ x, InCh h m x → bits < x.2)) ∨
  ∃ (a n : Nat) (p : Option Addr) (m' c : Nat) (h' : Nat → Nat × Nat), e = .returned (.tuple #[.agg #[.bool (sK a), .int .u64 (hK a), .int .u64 (mK a), .int .i64 ((bits : Nat) : Int)], .slice p m' c, .bool true]) ∧ Hid (Chg (fun _ => False) w w' ∧ Rd layQ w' (.slice p m' c) m' h' ∧ CanonR m' h' ∧ m' ≤ 20000001 ∧ (∀ k, MemR m' h' k ↔ S k ∧ ¬ ((pfR a bits).1 ≤ k ∧ k ≤ (pfR a bits).2)) ∧ okK a ∧ bits ≤ lenK a ∧ n ≤ bits ∧ ∃ m h, CanonR m h ∧ (∀ k, MemR m h k ↔ S k) ∧ InCh h m (a, n))
theorem chg4 (F : Nat → Prop) (W : World) (g : Nat) (v0 v1 v2 v3 : Value) (hF : g < W.heap.size → F g) : Chg F W ((((W.setCell ⟨g, 0, none⟩ v0).setCell ⟨g, 1, none⟩ v1).setCell ⟨g, 2, none⟩ v2).setCell ⟨g, 3, none⟩ v3) :=
  ((((Chg.refl F W).setCell ⟨g, 0, none⟩ v0 hF).setCell ⟨g, 1, none⟩ v1 hF).setCell ⟨g, 2, none⟩ v2 hF).setCell ⟨g, 3, none⟩ v3 hF
theorem set4p (W : World) (g : Nat) (x0 x1 x2 x3 v0 v1 v2 v3 : Value) (h : W.heap[g]? = some (.cells #[x0, x1, x2, x3] 47 (0, 0))) : ((((W.setCell ⟨g, 0, none⟩ v0).setCell ⟨g, 1, none⟩ v1).setCell ⟨g, 2, none⟩ v2).setCell ⟨g, 3, none⟩ v3).heap[g]? = some (.cells #[v0, v1, v2, v3] 47 (0, 0)) := by
  have h4 := set47 _ g _ 3 v3 (set47 _ g _ 2 v2 (set47 _ g _ 1 v1 (set47 W g _ 0 v0 h)))
  rw [h4]
  simp
theorem lenK_four (k : Nat) : 32 ≤ lenK k := by unfold lenK; split <;> omega
theorem lenK_six (k : Nat) (h : sK k = true) : lenK k = 128 := by
  unfold lenK
  rw [if_pos (of_decide_eq_true h)]
set_option maxRecDepth 100000 in
set_option maxHeartbeats 4000000 in
theorem c17 (v0 : Value) (n : Nat) (g : Nat → StepV) (L : Nat → Nat → Nat → Prop) (hL : LimS n g L) (hn : n ≤ 15000000) (hg : ∀ i, i < n → okStep (g i)) (bits : Nat) (hb : bits ≤ 128) (hS : 32 < bits → ∀ k, (runS g n).1 k → sK k = true) (w : World) (H : Rd layS w v0 n g) :
    Calls Tryz.prog 17 #[v0, .int .i64 ((bits : Nat) : Int)] w (FreeP w (runS g n).1 bits) := by
  obtain ⟨p, c, rfl, q1, q2⟩ := H
  have R1 : Hid (Rd layS w (.slice p n c) n g) := ⟨p, c, rfl, q1, q2⟩
  have HL : Hid _ := hL
  have HG : Hid _ := hg
  have HSX : Hid _ := hS
  clear q2 hL hg hS
  go_enter Tryz.func17, Tryz.ntmps17

  go_wp2_with fail
  refine (c29 _ n g L HL.out (by omega) HG.out _ (Rd.chg0 R1.out (by (repeat (with_reducible first | exact Chg.refl _ _ | refine Chg.plus ?_ _ _ | refine Chg.alloc ?_ _ | refine Chg.drew ?_))))).mono ?_
  rintro e w1 ⟨P, P', rfl, Z⟩
  obtain ⟨u, m, h, _, _, _, z1, z2, z3, _, _, z4, _, _⟩ := Z.out
  have HC1 : Hid (Chg (fun _ => False) w w1) := Chg.trans (by (repeat (with_reducible first | exact Chg.refl _ _ | refine Chg.plus ?_ _ _ | refine Chg.alloc ?_ _ | refine Chg.drew ?_))) z1
  have HS1 : Hid (SetAt w1 P u m h) := z2
  have HM : Hid (∀ k, MemR m h k ↔ (runS g n).1 k) := z3
  have HLK : Hid (∀ i, i < m → bits ≤ lenK (h i).1) := fun i hi => by
    by_cases q : 32 < bits
    · rw [lenK_six _ (HSX.out q _ ((z3 _).1 ⟨i, hi, Nat.le_refl _, (z2.can.ok i hi).le⟩))]
      exact hb
    · exact Nat.le_trans (by omega) (lenK_four _)
  have eb : ((bits : Nat) : Int) % 256 = ((bits : Nat) : Int) := by omega
  have hpc : w.heap.size < w1.heap.size := by
    have := z1.size
    simp at this
    omega
  have hB4 : w1.heap[w.heap.size]? = some (.cells #[.bool false, .int .u64 0, .int .u64 0, .int .i64 0] 47 (0, 0)) := heap_chg z1 (blk_new rfl) id
  have H4 : Hid _ := hB4
  clear Z z1 z2 z3 R1 HL HG HSX hB4
  go_wp2_with fail
  refine (c42 P u m h (by omega) bits hb HLK.out _ (SetAt.chg HS1.out (F := fun _ => False) (by (repeat (with_reducible first | exact Chg.refl _ _ | refine Chg.plus ?_ _ _ | refine Chg.alloc ?_ _ | refine Chg.drew ?_))) id (fun _ _ => id))).mono ?_
  rintro e w2 (⟨rfl, Z⟩ | ⟨x, P2, rfl, Z⟩)
  · have HC2 : Hid (Chg (fun _ => False) w1 w2) := Chg.trans (by (repeat (with_reducible first | exact Chg.refl _ _ | refine Chg.plus ?_ _ _ | refine Chg.alloc ?_ _ | refine Chg.drew ?_))) Z.out.1
    have HE := heap_chg HC2.out H4.out id
    have hB0 : w.heap.size < w2.heap.size := (Array.getElem?_eq_some_iff.1 HE).1
    have fb0 := fr_at HE 0
    have fb1 := fr_at HE 1
    have fb2 := fr_at HE 2
    have fb3 := fr_at HE 3
    have HN : Hid (∀ x, InCh h m x → bits < x.2) := Z.out.2
    have hy := rangeAt_of _ _ _ 47 HE 0 [.bool false, .int .u64 0, .int .u64 0, .int .i64 0] (fun j hj => by rw [Nat.zero_add, ← Array.getElem?_toList])
    have ce0 := hy 0 _ rfl
    have ce1 := hy 1 _ rfl
    have ce2 := hy 2 _ rfl
    have ce3 := hy 3 _ rfl
    simp only [Nat.zero_add] at ce0 ce1 ce2 ce3
    clear hy
    clear Z
    go_wp2_with fail
    refine bodyPost_ret (v := .tuple #[.agg #[.bool false, .int .u64 0, .int .u64 0, .int .i64 0], .slice none 0 0, .bool false]) (by simp [results, Tryz.results17, go_sem, IntWalk.iteOmega, ↓IntWalk.iteOmega, ce0, ce1, ce2, ce3, hB0]) rfl (.inl ⟨rfl, ?_, m, h, HS1.out.can, HM.out, HN.out⟩)
    exact ((HC1.out.trans HC2.out).trans' (chg4 (fun q => q = w.heap.size) _ w.heap.size _ _ _ _ (fun _ => rfl)) (by intro q hq e; omega)).trans (by (repeat (with_reducible first | exact Chg.refl _ _ | refine Chg.plus ?_ _ _ | refine Chg.alloc ?_ _ | refine Chg.drew ?_)))
  · obtain ⟨kx, nx⟩ := x
    obtain ⟨y1, y2, y3, u2, m2, h2, y4, y5, y6, y7⟩ := Z.out
    have HC2 : Hid (Chg (fun _ => False) w1 w2) := Chg.trans (by (repeat (with_reducible first | exact Chg.refl _ _ | refine Chg.plus ?_ _ _ | refine Chg.alloc ?_ _ | refine Chg.drew ?_))) y1
    have HIN : Hid (InCh h m (kx, nx) ∧ nx ≤ bits) := ⟨y2, y3⟩
    have HS2 : Hid (SetAt w2 P2 u2 m2 h2) := y4
    have HM2 : Hid (∀ k, MemR m2 h2 k ↔ MemR m h k ∧ ¬ ((pfR kx bits).1 ≤ k ∧ k ≤ (pfR kx bits).2)) := y7
    have hkb := inCh_ok HS1.out.can.ok HLK.out y2
    have okx := hkb.1
    have hbx := hkb.2
    clear Z y1 y2 y3 y4 y5 y7 hkb
    go_wp2_with fail
    refine (c30 P2 u2 m2 h2 (by omega) _ (SetAt.chg HS2.out (F := fun _ => False) (by (repeat (with_reducible first | exact Chg.refl _ _ | refine Chg.plus ?_ _ _ | refine Chg.alloc ?_ _ | refine Chg.drew ?_))) id (fun _ _ => id))).mono ?_
    rintro e w3 ⟨pr, cr, rfl, Z⟩
    have HC3 : Hid (Chg (fun _ => False) w2 w3) := Chg.trans (by (repeat (with_reducible first | exact Chg.refl _ _ | refine Chg.plus ?_ _ _ | refine Chg.alloc ?_ _ | refine Chg.drew ?_))) Z.out.1
    have HPB : Hid (w3.heap[w2.heap.size]? = some (.cells #[.int .u64 (hK kx), .int .u64 (lK kx), .bool true, .bool (sK kx), .string ⟨#[]⟩, .int .u8 ((bits : Nat) + 1 : Int)] 93 (0, 0))) := heap_chg Z.out.1 (blk_new rfl) id
    have HRR : Hid (Rd layR w3 (.slice pr m2 cr) m2 h2) := Z.out.2.1.rd
    clear Z
    go_wp2_with fail
    go_loopw [12, 34] (fun t12 t34 wr => ∃ (i : Nat) (p0 : Option Addr) (c0 : Nat), t34 = .int .i64 i ∧ t12 = .slice p0 i c0 ∧ i ≤ m2 ∧ Hid (Chg (fun _ => False) w3 wr ∧ OwnDV layQ 40 wr (.slice p0 i c0) i h2 ∧ ∀ k, (Value.slice p0 i c0).ownBlock = some k → w3.heap.size ≤ k))
      (fun _ t34 _ => m2 - (intOf t34).toNat)
    case atStart => exact ⟨0, none, 0, rfl, rfl, Nat.zero_le _, by (repeat (with_reducible first | exact Chg.refl _ _ | refine Chg.plus ?_ _ _ | refine Chg.alloc ?_ _ | refine Chg.drew ?_)), .nil _, fun k e => by simp [Value.ownBlock] at e⟩
    case round =>
      obtain ⟨i, p0, c0, rfl, rfl, hi, X⟩ := hrel
      by_cases hlt : i < m2
      · obtain ⟨q, kq, eq, hmk, hrow0⟩ := HRR.out
        simp only [Value.slice.injEq, true_and] at eq
        obtain ⟨e1, e2⟩ := eq
        obtain ⟨G, o, e3, hrow⟩ := hrow0 (by omega)
        clear hrow0
        subst e2 e1 e3
        have ra : wr.rangeAt G (o + i * 10) (rcL (h2 i)) := rangeAt_chg X.out.1 (hrow i hlt) id
        obtain ⟨ca0, ca1, ca2, ca3, ca4, ca5, ca6, ca7, ca8, ca9⟩ := rc_cells ra
        have hG : G < wr.heap.size := World.block_lt_of_cell? _ _ ca0
        have OK : Hid (okR (h2 i)) := HS2.out.can.ok i hlt
        have ok1 : okK (h2 i).1 := OK.out.a
        have ok2 : okK (h2 i).2 := OK.out.b
        clear hrow ra
        go_upto_region 8 with fail
        go_cut [14] from 35 to 47 (fun t14 wx => t14 = .pointer (some ⟨wr.heap.size, 0, none⟩) ∧ Hid (Chg (fun _ => False) wr wx ∧ wx.rangeAt wr.heap.size 0 (rcL (h2 i))))
        case first =>
          go_wp2_with fail
          go_meet
          case rel => exact ⟨rfl, by (repeat (with_reducible first | refine Chg.plus ?_ _ _ | refine Chg.alloc ?_ _ | refine Chg.drew ?_ | exact Chg.refl _ _)), rangeAt_new wr _ (h2 i) rfl⟩
        case rest =>
          obtain ⟨rfl, Z⟩ := hcut
          have HW : Hid (Chg (fun _ => False) wr wc) := Z.out.1
          have hlo : ∀ k, (Value.slice p0 i c0).ownBlock = some k → k < wr.heap.size := fun k e => X.out.2.1.lt e
          have ea : ∀ w', Chg (AtV (.slice p0 i c0)) wc w' → w'.rangeAt wr.heap.size 0 (rcL (h2 i)) := fun w' q => rangeAt_chg q Z.out.2 (fun e => by have := hlo _ e; omega)
          have ea0 : ∀ w', Chg (AtV (.slice p0 i c0)) wc w' → w'.cell? ⟨wr.heap.size, 0, none⟩ = some (.int .u64 (hK (h2 i).1)) := fun w' q => (rc_cells (ea w' q)).1
          have ea1 : ∀ w', Chg (AtV (.slice p0 i c0)) wc w' → w'.cell? ⟨wr.heap.size, 1, none⟩ = some (.int .u64 (lK (h2 i).1)) := fun w' q => (rc_cells (ea w' q)).2.1
          have ea2 : ∀ w', Chg (AtV (.slice p0 i c0)) wc w' → w'.cell? ⟨wr.heap.size, 2, none⟩ = some (.bool true) := fun w' q => (rc_cells (ea w' q)).2.2.1
          have ea3 : ∀ w', Chg (AtV (.slice p0 i c0)) wc w' → w'.cell? ⟨wr.heap.size, 3, none⟩ = some (.bool (sK (h2 i).1)) := fun w' q => (rc_cells (ea w' q)).2.2.2.1
          have ea4 : ∀ w', Chg (AtV (.slice p0 i c0)) wc w' → w'.cell? ⟨wr.heap.size, 4, none⟩ = some (.string ⟨#[]⟩) := fun w' q => (rc_cells (ea w' q)).2.2.2.2.1
          have ea5 : ∀ w', Chg (AtV (.slice p0 i c0)) wc w' → w'.cell? ⟨wr.heap.size, 5, none⟩ = some (.int .u64 (hK (h2 i).2)) := fun w' q => (rc_cells (ea w' q)).2.2.2.2.2.1
          have ea6 : ∀ w', Chg (AtV (.slice p0 i c0)) wc w' → w'.cell? ⟨wr.heap.size, 6, none⟩ = some (.int .u64 (lK (h2 i).2)) := fun w' q => (rc_cells (ea w' q)).2.2.2.2.2.2.1
          have ea7 : ∀ w', Chg (AtV (.slice p0 i c0)) wc w' → w'.cell? ⟨wr.heap.size, 7, none⟩ = some (.bool true) := fun w' q => (rc_cells (ea w' q)).2.2.2.2.2.2.2.1
          have ea8 : ∀ w', Chg (AtV (.slice p0 i c0)) wc w' → w'.cell? ⟨wr.heap.size, 8, none⟩ = some (.bool (sK (h2 i).2)) := fun w' q => (rc_cells (ea w' q)).2.2.2.2.2.2.2.2.1
          have ea9 : ∀ w', Chg (AtV (.slice p0 i c0)) wc w' → w'.cell? ⟨wr.heap.size, 9, none⟩ = some (.string ⟨#[]⟩) := fun w' q => (rc_cells (ea w' q)).2.2.2.2.2.2.2.2.2
          have hOwn : Hid (OwnDV layQ 40 wc (.slice p0 i c0) i h2) := X.out.2.1.chg HW.out (fun _ _ => id)
          clear Z hlo ea ca0 ca1 ca2 ca3 ca4 ca5 ca6 ca7 ca8 ca9 hG
          go_upto_region 9 with fail
          go_region_held3 (fun w' => Chg (AtV (.slice p0 i c0)) wc w') (solve | (with_reducible assumption) | (repeat (with_reducible first | exact Chg.refl _ _ | refine Chg.plus ?_ _ _ | refine Chg.alloc ?_ _ | refine Chg.drew ?_ | assumption)) | (refine Chg.trans ?_ (by with_reducible assumption); repeat (with_reducible first | exact Chg.refl _ _ | refine Chg.plus ?_ _ _ | refine Chg.alloc ?_ _ | refine Chg.drew ?_ | assumption))) (first | (go_at_call 32; (with_reducible refine (k32 (h2 i) _).mono ?_); rintro e w' ⟨rfl, dd, oo, rfl⟩) | (go_at_call 33; (with_reducible refine (k33 (h2 i) _).mono ?_); rintro e w' ⟨rfl, dd, oo, rfl⟩) | (go_at_call 31; (with_reducible refine (k31 _ ?_ _).mono ?_); (focus assumption); rintro e w' ⟨rfl, dd, oo, rfl⟩) | (refine stepD rfl _ _ 25 48 infoQ under25 (by omega) rfl (.slice p0 i c0) i h2 rfl ?hown 1 (fun _ => h2 i) ?hr ?sz ?_; (case hown => exact OwnDV.chg hOwn.out (F := fun _ => False) (by (repeat (with_reducible first | exact Chg.refl _ _ | refine Chg.plus ?_ _ _ | refine Chg.alloc ?_ _ | refine Chg.drew ?_))) (fun _ _ => id)); (case hr => exact Rd.newAt _ (h2 i) (by simp) rfl); (case sz => omega); intro p3 c3 w' hO' hC' hat))
          have HZ : Hid (Chg (fun _ => False) w3 w' ∧ OwnDV layQ 40 w' (.slice p3 (i + 1) c3) (i + 1) h2 ∧ ∀ k, (Value.slice p3 (i + 1) c3).ownBlock = some k → w3.heap.size ≤ k) := by
            refine ⟨Chg.app ((X.out.1.trans HW.out).trans (by (repeat (with_reducible first | exact Chg.refl _ _ | refine Chg.plus ?_ _ _ | refine Chg.alloc ?_ _ | refine Chg.drew ?_)))) hC' X.out.2.2, OwnDV.congr hO'.out (fun j hj => ?_), fun k e => ?_⟩
            · unfold appF
              split
              · rfl
              · rw [show j = i by omega]
            · rcases hat.out with q | q
              · exact X.out.2.2 k (by rw [← q]; exact e)
              · rw [q] at e
                have := X.out.1.size
                have := HW.out.size
                simp at e
                omega
          clear hO' hC' hat ea0 ea1 ea2 ea3 ea4 ea5 ea6 ea7 ea8 ea9
          go_wp2_with fail
          go_roundw
          case rel => exact ⟨i + 1, p3, c3, by go_num, rfl, by omega, HZ.out⟩
          case measure => simp [intOf]; omega
      · obtain rfl : i = m2 := by omega
        have HE := heap_chg (HC2.out.trans (HC3.out.trans X.out.1)) H4.out id
        have hB0 : w.heap.size < wr.heap.size := (Array.getElem?_eq_some_iff.1 HE).1
        have fb0 := fr_at HE 0
        have fb1 := fr_at HE 1
        have fb2 := fr_at HE 2
        have fb3 := fr_at HE 3
        have hz := rangeAt_of _ _ _ 93 (heap_chg X.out.1 HPB.out id) 0 (pfL kx bits) (fun j hj => by rw [Nat.zero_add, ← Array.getElem?_toList]; rfl)
        obtain ⟨cd0, cd1, cd2, cd3, cd4, cd5⟩ := pf_cells hz
        simp only [Nat.zero_add] at cd0 cd1 cd2 cd3 cd4 cd5
        have hD : w2.heap.size < wr.heap.size := World.block_lt_of_cell? _ _ cd0
        clear hz
        have hy := rangeAt_of _ _ _ 47 HE 0 [.bool false, .int .u64 0, .int .u64 0, .int .i64 0] (fun j hj => by rw [Nat.zero_add, ← Array.getElem?_toList])
        have ce0 := hy 0 _ rfl
        have ce1 := hy 1 _ rfl
        have ce2 := hy 2 _ rfl
        have ce3 := hy 3 _ rfl
        simp only [Nat.zero_add] at ce0 ce1 ce2 ce3
        clear hy
        go_upto_region 11 with fail
        go_cut [5, 6] from 49 to 55 (fun t5 t6 wx => t5 = .slice p0 i c0 ∧ t6 = .bool true ∧ Hid (Chg (fun q => q = w.heap.size) wr wx ∧ wx.heap[w.heap.size]? = some (.cells #[.bool (sK kx), .int .u64 (hK kx), .int .u64 (mK kx), .int .i64 ((bits : Nat) : Int)] 47 (0, 0))))
        case first =>
          go_region_with (first | (go_at_call 43; (with_reducible refine (k43 kx bits _).mono ?_); rintro e w' ⟨rfl, dd, oo, rfl⟩) | (go_at_call 31; (with_reducible refine (k31 kx okx _).mono ?_); rintro e w' ⟨rfl, dd, oo, rfl⟩) | (go_at_call 44; (with_reducible refine (k44 kx bits hb _).mono ?_); rintro e w' ⟨rfl, dd, oo, rfl⟩))
          all_goals go_wp2_with fail
          all_goals go_meet
          all_goals exact ⟨rfl, rfl, (chg4 (fun q => q = w.heap.size) _ w.heap.size _ _ _ _ (fun _ => rfl)).trans (by (repeat (with_reducible first | exact Chg.refl _ _ | refine Chg.plus ?_ _ _ | refine Chg.alloc ?_ _ | refine Chg.drew ?_))), heap_chg (F := fun _ => False) (by (repeat (with_reducible first | exact Chg.refl _ _ | refine Chg.plus ?_ _ _ | refine Chg.alloc ?_ _ | refine Chg.drew ?_))) (set4p _ w.heap.size _ _ _ _ _ _ _ _ HE) id⟩
        case rest =>
          obtain ⟨rfl, rfl, Z⟩ := hcut
          have hy2 := rangeAt_of _ _ _ 47 Z.out.2 0 [.bool (sK kx), .int .u64 (hK kx), .int .u64 (mK kx), .int .i64 ((bits : Nat) : Int)] (fun j hj => by rw [Nat.zero_add, ← Array.getElem?_toList])
          have cf0 := hy2 0 _ rfl
          have cf1 := hy2 1 _ rfl
          have cf2 := hy2 2 _ rfl
          have cf3 := hy2 3 _ rfl
          simp only [Nat.zero_add] at cf0 cf1 cf2 cf3
          clear hy2
          go_wp2_with fail
          refine bodyPost_ret (v := .tuple #[.agg #[.bool (sK kx), .int .u64 (hK kx), .int .u64 (mK kx), .int .i64 ((bits : Nat) : Int)], .slice p0 i c0, .bool true]) (by simp [results, Tryz.results17, go_sem, IntWalk.iteOmega, ↓IntWalk.iteOmega, cf0, cf1, cf2, cf3]) rfl (.inr ⟨kx, nx, p0, i, c0, h2, rfl, ?_, ?_, HS2.out.can, by omega, fun k => ?_, okx, hbx, HIN.out.2, m, h, HS1.out.can, HM.out, HIN.out.1⟩)
          · exact ((HC1.out.trans (HC2.out.trans (HC3.out.trans X.out.1))).trans' Z.out.1 (by intro q hq e; omega))
          · exact (X.out.2.1.chg Z.out.1 (fun q e z => by have := X.out.2.2 q e; have := HC2.out.size; have := HC3.out.size; omega)).rd
          · rw [HM2.out k, HM.out k]
end Go.Proofs.YtmoabfpdlbngeaaGreatDoor
end

section
namespace Go.Proofs.YtmoabfpdlbngeaaGreatDoor
open Go.RowKit
set_option maxHeartbeats 400000
set_option linter.unusedVariables false
set_option linter.unusedSimpArgs false
theorem newRqAt (W : World) (r : Nat × Nat) (B : Nat) (hB : B = W.heap.size) : (W.alloc (.cells #[.bool (sK r.1), .int .u64 (hK r.1), .int .u64 (mK r.1), .bool (sK r.2), .int .u64 (hK r.2), .int .u64 (mK r.2)] 40)).rangeAt B 0 (rqL r) := by
  subst hB
  exact newRq W r
theorem canon_mono {m : Nat} {h : Nat → Nat × Nat} (C : CanonR m h) (i j : Nat) (hij : i < j) : j < m → (h i).2 + 1 < (h j).1 := by
  induction j with
  | zero => omega
  | succ j ih =>
    intro hj
    have g := C.gap j hj
    by_cases e : i = j
    · subst e; exact g
    · have := ih (by omega) (by omega)
      have := (C.ok j (by omega)).le
      omega
theorem InCh.congr {f f' : Nat → Nat × Nat} {i : Nat} {x : Nat × Nat} (e : ∀ j, j < i → f j = f' j) (H : InCh f i x) : InCh f' i x := by
  obtain ⟨j, hj, m, g, C, l, hl, q⟩ := H
  rw [e j hj] at C q
  exact ⟨j, hj, m, g, C, l, hl, q⟩
theorem pfA_al (a n bits : Nat) (hn : n ≤ bits) (hb : bits ≤ lenK a) (x : Nat) (hx : (a - baseK a) % 2 ^ (lenK a - n) = 0) (hB : baseK a ≤ a) : pfA a bits = a := by
  have h1 : (a - baseK a) % roomK a bits = 0 := mod_pow hx (by omega)
  have h2 := Nat.div_add_mod (a - baseK a) (roomK a bits)
  have h3 := Nat.mul_comm (roomK a bits) ((a - baseK a) / roomK a bits)
  unfold pfA
  omega
/-- A prefix of the chains: where it stands, and that its keys are of the set. -/
theorem inCh_spec {m : Nat} {h : Nat → Nat × Nat} (ho : ∀ i, i < m → okR (h i)) {a n : Nat} (H : InCh h m (a, n)) (bits : Nat) (hn : n ≤ bits) (hb : bits ≤ lenK a) : pfA a bits = a ∧ ∀ k, (pfR a bits).1 ≤ k → k ≤ (pfR a bits).2 → MemR m h k := by
  obtain ⟨j, hj, m', g, C, l, hl, e⟩ := H
  obtain ⟨h1, h2, h3⟩ := vK_range (h j) (ho j hj)
  have oa := (ho j hj).a
  have ob := (ho j hj).b
  have os := (ho j hj).s
  have ge := C.ge l hl
  have ft := C.fit l hl
  have al := C.al l hl
  have hp := Nat.two_pow_pos (g l).2
  have main : pfA a bits = a ∧ (h j).1 ≤ a ∧ a + 2 ^ (lenK a - n) ≤ (h j).2 + 1 := by
    cases hs : sK (h j).1 <;> rw [hs] at e
    · have e1 : (g l).1 % 4294967296 = a := congrArg Prod.fst e
      have e2 : 32 - (g l).2 = n := congrArg Prod.snd e
      obtain ⟨q1, q2⟩ := h3 hs
      have s1 : ¬ 8589934592 ≤ (h j).1 := of_decide_eq_false hs
      have s2 : ¬ 8589934592 ≤ (h j).2 := of_decide_eq_false (os.symm.trans hs)
      rw [vK4 _ s1] at ge q1 h1
      rw [vK4 _ s2] at ft q2 h1 h2
      have la : lenK a = 32 := by unfold lenK; rw [if_neg (by omega)]
      have ba : baseK a = 0 := by unfold baseK; rw [if_neg (by omega)]
      have e3 : a + 281470681743360 = (g l).1 := by omega
      have hq : (g l).2 ≤ 32 := by
        rcases Nat.lt_or_ge 32 (g l).2 with z | z
        · have : 2 ^ 33 ≤ 2 ^ (g l).2 := Nat.pow_le_pow_right (by omega) z
          omega
        · exact z
      have hx : (a - baseK a) % 2 ^ (lenK a - n) = 0 := by
        rw [ba, la, ← e2, show 32 - (32 - (g l).2) = (g l).2 by omega, Nat.sub_zero]
        have z1 : 281470681743360 % 2 ^ (g l).2 = 0 := by
          have : 2 ^ 32 % 2 ^ (g l).2 = 0 := pow_mod hq
          rw [show 281470681743360 = 2 ^ 32 * 65535 by rfl, Nat.mul_mod, this, Nat.zero_mul, Nat.zero_mod]
        have z2 : (a + 281470681743360) % 2 ^ (g l).2 = 0 := by rw [e3]; exact al
        rw [Nat.add_mod, z1, Nat.add_zero, Nat.mod_mod] at z2
        exact z2
      refine ⟨pfA_al a n bits hn hb 0 hx (by omega), by omega, ?_⟩
      rw [la, ← e2, show 32 - (32 - (g l).2) = (g l).2 by omega]
      omega
    · have e1 : 8589934592 + (g l).1 = a := congrArg Prod.fst e
      have e2 : 128 - (g l).2 = n := congrArg Prod.snd e
      have s1 : 8589934592 ≤ (h j).1 := of_decide_eq_true hs
      have s2 : 8589934592 ≤ (h j).2 := of_decide_eq_true (os.symm.trans hs)
      have v1 := vK6 _ s1
      have v2 := vK6 _ s2
      have la : lenK a = 128 := by unfold lenK; rw [if_pos (by omega)]
      have ba : baseK a = 8589934592 := by unfold baseK; rw [if_pos (by omega)]
      have hq : (g l).2 ≤ 128 := by
        rcases Nat.lt_or_ge 128 (g l).2 with z | z
        · have : 2 ^ 129 ≤ 2 ^ (g l).2 := Nat.pow_le_pow_right (by omega) z
          omega
        · exact z
      have hx : (a - baseK a) % 2 ^ (lenK a - n) = 0 := by
        rw [ba, la, ← e2, show 128 - (128 - (g l).2) = (g l).2 by omega, show a - 8589934592 = (g l).1 by omega]
        exact al
      refine ⟨pfA_al a n bits hn hb 0 hx (by omega), by omega, ?_⟩
      rw [la, ← e2, show 128 - (128 - (g l).2) = (g l).2 by omega]
      omega
  obtain ⟨m1, m2, m3⟩ := main
  refine ⟨m1, fun k k1 k2 => ⟨j, hj, ?_, ?_⟩⟩
  · have : pfA a bits ≤ k := k1
    omega
  · have k2' : k ≤ pfA a bits + (roomK a bits - 1) := k2
    have : roomK a bits ≤ 2 ^ (lenK a - n) := Nat.pow_le_pow_right (by omega) (by omega)
    have := roomK_pos a bits
    omega
theorem four_no {m : Nat} {h : Nat → Nat × Nat} {S : Nat → Prop} {bits : Nat} (C : CanonR m h) (M : ∀ k, MemR m h k ↔ S k) (q : ¬ ((decide (0 < m) && !(sK (h 0).1)) = true)) : 32 < bits → ∀ k, S k → sK k = true := by
  intro _ k hk
  obtain ⟨i, hi, k1, k2⟩ := (M k).2 hk
  have h0 : sK (h 0).1 = true := by
    cases hs : sK (h 0).1
    · exact absurd (by simp [hs]; omega) q
    · rfl
  have z0 : 8589934592 ≤ (h 0).1 := of_decide_eq_true h0
  have hm : (h 0).1 ≤ (h i).1 := by
    by_cases e : i = 0
    · subst e; exact Nat.le_refl _
    · have := canon_mono C 0 i (by omega) hi
      have := (C.ok 0 (by omega)).le
      omega
  exact decide_eq_true (by omega)
/-- impl.Free's answer in one shape. -/
theorem FreeP.uni {w w' : World} {S : Nat → Prop} {bits : Nat} {e : Ending} (H : FreeP w S bits e w') : ∃ (s : Bool) (x y z : Int) (p : Option Addr) (m' c : Nat) (ok : Bool), e = .returned (.tuple #[.agg #[.bool s, .int .u64 x, .int .u64 y, .int .i64 z], .slice p m' c, .bool ok]) ∧ Hid (Chg (fun _ => False) w w' ∧
    ((ok = false ∧ ∃ m h, CanonR m h ∧ (∀ k, MemR m h k ↔ S k) ∧ ∀ x, InCh h m x → bits < x.2) ∨
     (ok = true ∧ ∃ (a n : Nat) (h' : Nat → Nat × Nat), s = sK a ∧ x = hK a ∧ y = mK a ∧ z = ((bits : Nat) : Int) ∧ Rd layQ w' (.slice p m' c) m' h' ∧ CanonR m' h' ∧ m' ≤ 20000001 ∧ (∀ k, MemR m' h' k ↔ S k ∧ ¬ ((pfR a bits).1 ≤ k ∧ k ≤ (pfR a bits).2)) ∧ okK a ∧ bits ≤ lenK a ∧ n ≤ bits ∧ ∃ m h, CanonR m h ∧ (∀ k, MemR m h k ↔ S k) ∧ InCh h m (a, n)))) := by
  rcases H with ⟨rfl, Z⟩ | ⟨a, n, p, m', c, h', rfl, Z⟩
  · exact ⟨false, 0, 0, 0, none, 0, 0, false, rfl, Z.out.1, .inl ⟨rfl, Z.out.2⟩⟩
  · exact ⟨_, _, _, _, p, m', c, true, rfl, Z.out.1, .inr ⟨rfl, a, n, h', rfl, rfl, rfl, rfl, Z.out.2⟩⟩
set_option maxRecDepth 100000 in
set_option maxHeartbeats 4000000 in
/-- FnFreeWhole returns true. -/
theorem c5 (v1 : Value) (n1 : Nat) (f1 : Nat → Nat) (hn1 : n1 ≤ 140737488355328) (nb : Nat) (hnb : nb < 256) (w : World) (H1 : Rd layB w v1 n1 f1) (b1 : ∀ i, i < n1 → f1 i < 256) :
    Calls Tryz.prog 5 #[v1, .int .u8 ((nb : Nat) : Int)] w (TrueP w) := by
  obtain ⟨p1, c1, rfl, q1, q2⟩ := H1
  have R1 : Hid (Rd layB w (.slice p1 n1 c1) n1 f1) := ⟨p1, c1, rfl, q1, q2⟩
  have HB1 : Hid _ := b1
  clear q2 b1
  by_cases g1 : 2147483647 < n1
  · have z1 : decide (2147483647 < (n1 : Int)) = true := decide_eq_true (by omega)
    go_enter Tryz.func5, Tryz.ntmps5

    go_wp2_with fail
    go_ret
    exact ⟨rfl, by (repeat (with_reducible first | exact Chg.refl _ _ | refine Chg.plus ?_ _ _ | refine Chg.alloc ?_ _ | refine Chg.drew ?_))⟩
  · have z1 : decide (2147483647 < (n1 : Int)) = false := decide_eq_false (by omega)
    go_enter Tryz.func5, Tryz.ntmps5

    go_wp2_with fail
    refine (c8 _ n1 f1 (by omega) _ (Rd.chg0 R1.out (by (repeat (with_reducible first | exact Chg.refl _ _ | refine Chg.plus ?_ _ _ | refine Chg.alloc ?_ _ | refine Chg.drew ?_)))) HB1.out).mono ?_
    rintro e w1 ⟨ps, ns, cs, gs, rfl, Z⟩
    have HC1 : Hid (Chg (fun _ => False) w w1) := Chg.trans (by (repeat (with_reducible first | exact Chg.refl _ _ | refine Chg.plus ?_ _ _ | refine Chg.alloc ?_ _ | refine Chg.drew ?_))) Z.out.1
    have HS : Hid (Rd layS w1 (.slice ps ns cs) ns gs) := Z.out.2.1
    have hns : ns ≤ 40 := Z.out.2.2.1
    have HGS : Hid (∀ i, i < ns → okStep (gs i)) := Z.out.2.2.2
    clear Z
    go_wp2_with fail
    refine (c10 _ ns gs Gro (lim40 _ hns) (by omega) HGS.out _ (Rd.chg0 HS.out (by (repeat (with_reducible first | exact Chg.refl _ _ | refine Chg.plus ?_ _ _ | refine Chg.alloc ?_ _ | refine Chg.drew ?_))))).mono ?_
    rintro e w3 ⟨pl2, pk2, m2, K2, cl2, ck2, h2, hk2, rfl, Z⟩
    have HC3 : Hid (Chg (fun _ => False) w1 w3) := Chg.trans (by (repeat (with_reducible first | exact Chg.refl _ _ | refine Chg.plus ?_ _ _ | refine Chg.alloc ?_ _ | refine Chg.drew ?_))) Z.out.1.chg
    have HL2 : Hid (Rd layQ w3 (.slice pl2 m2 cl2) m2 h2) := Z.out.1.rl
    have HCL2 : Hid (CanonR m2 h2) := Z.out.1.cl
    have HML2 : Hid (∀ k, MemR m2 h2 k ↔ (runS gs ns).1 k) := Z.out.1.ml
    have hm2 : m2 ≤ 15000000 := Z.out.2.1
    clear Z
    obtain ⟨bits, hbits⟩ : ∃ bits : Nat, bits = nb % 129 := ⟨_, rfl⟩
    have hb : bits ≤ 128 := by omega
    have hrem : (nb : Int) % 129 = (bits : Int) := by omega
    have hrem2 : Int.tmod (nb : Int) 129 = (bits : Int) := by
      rw [Int.tmod_eq_emod_of_nonneg (by omega)]; exact hrem
    clear hbits
    by_cases g2 : 32 < bits
    · have z2 : decide (32 < (bits : Int)) = true := decide_eq_true (by omega)
      by_cases g3 : decide (0 < m2) && !(sK (h2 0).1)
      · go_wp2_with (first | (go_at_call 16; (with_reducible refine (c16 _ m2 h2 _ (Rd.chg0 HL2.out (by (repeat (with_reducible first | exact Chg.refl _ _ | refine Chg.plus ?_ _ _ | refine Chg.alloc ?_ _ | refine Chg.drew ?_))))).mono ?_); rw [g3]; rintro e w' ⟨rfl, dd, oo, rfl⟩))
        refine (c14 _).mono ?_
        rintro e w7 ⟨rfl, Z⟩
        have HC7 : Hid (Chg (fun _ => False) w3 w7) := Chg.trans (by (repeat (with_reducible first | exact Chg.refl _ _ | refine Chg.plus ?_ _ _ | refine Chg.alloc ?_ _ | refine Chg.drew ?_))) Z
        clear Z
        go_wp2_with fail
        go_ret
        exact ⟨rfl, (HC1.out.trans HC3.out).trans HC7.out⟩
      · have HSX : Hid (32 < bits → ∀ k, (runS gs ns).1 k → sK k = true) := four_no HCL2.out HML2.out (by simpa using g3)
        rw [Bool.not_eq_true] at g3
        go_wp2_with (first | (go_at_call 16; (with_reducible refine (c16 _ m2 h2 _ (Rd.chg0 HL2.out (by (repeat (with_reducible first | exact Chg.refl _ _ | refine Chg.plus ?_ _ _ | refine Chg.alloc ?_ _ | refine Chg.drew ?_))))).mono ?_); rw [g3]; rintro e w' ⟨rfl, dd, oo, rfl⟩))
        refine (c17 _ ns gs Gro (lim40 _ hns) (by omega) HGS.out bits (by omega) HSX.out _ (Rd.chg0 HS.out (HC3.out.trans (by (repeat (with_reducible first | exact Chg.refl _ _ | refine Chg.plus ?_ _ _ | refine Chg.alloc ?_ _ | refine Chg.drew ?_)))))).mono ?_
        rintro e w4 Z0
        obtain ⟨s, x, y, z, pr, mr, cr, ok, rfl, Z⟩ := Z0.uni
        have HC4 : Hid (Chg (fun _ => False) w3 w4) := Chg.trans (by (repeat (with_reducible first | exact Chg.refl _ _ | refine Chg.plus ?_ _ _ | refine Chg.alloc ?_ _ | refine Chg.drew ?_))) Z.out.1
        have HZ : Hid _ := Z.out.2
        clear Z Z0 HGS HS
        go_wp2_with fail
        refine (c13 _ m2 h2 (by omega) _ (Rd.chg0 HL2.out (HC4.out.trans (by (repeat (with_reducible first | exact Chg.refl _ _ | refine Chg.plus ?_ _ _ | refine Chg.alloc ?_ _ | refine Chg.drew ?_))))) (fun j hj => HCL2.out.ok j hj)).mono ?_
        rintro e w5 ⟨pf2, M2, cf2, F2, rfl, Z⟩
        have HC5 : Hid (Chg (fun _ => False) w4 w5) := Chg.trans (by (repeat (with_reducible first | exact Chg.refl _ _ | refine Chg.plus ?_ _ _ | refine Chg.alloc ?_ _ | refine Chg.drew ?_))) Z.out.1
        have hB4 : w5.heap[w4.heap.size]? = some (.cells #[.bool s, .int .u64 x, .int .u64 y, .int .i64 z] 47 (0, 0)) := heap_chg Z.out.1 (by first | exact blk_new rfl | (simp [World.plus]; done)) id
        have H4 : Hid _ := hB4
        have h4lt : w4.heap.size < w5.heap.size := (Array.getElem?_eq_some_iff.1 hB4).1
        have HF2 : Hid (Rd layI w5 (.slice pf2 M2 cf2) M2 F2) := Z.out.2.1
        have HCh : Hid (ChL h2 m2 M2 F2) := Z.out.2.2.1
        have hM2 : M2 ≤ 257 * m2 := Z.out.2.2.2
        have HLN : Hid (∀ j, j < M2 → bits ≤ lenK (F2 j).1) := by
          intro j hj
          have q : InCh h2 m2 ((F2 j).1, (F2 j).2) := (ChL.mem HCh.out _).1 ⟨j, hj, rfl⟩
          refine (inCh_ok (fun i hi => HCL2.out.ok i hi) (fun i hi => ?_) q).2
          by_cases q : 32 < bits
          · rw [lenK_six _ (HSX.out q _ ((HML2.out _).1 ⟨i, hi, Nat.le_refl _, (HCL2.out.ok i hi).le⟩))]
            omega
          · exact Nat.le_trans (by omega) (lenK_four _)
        clear Z hB4
        go_wp2_with fail
        go_loopw [12, 46] (fun t12 t46 wr => ∃ (i : Nat) (b : Bool), t46 = .int .i64 i ∧ t12 = .bool b ∧ i ≤ M2 ∧ Hid (Chg (fun _ => False) w5 wr ∧ (b = true ↔ ∃ j, j < i ∧ (F2 j).2 ≤ bits)))
          (fun _ t46 _ => M2 - (intOf t46).toNat)
        case atStart => exact ⟨0, false, rfl, rfl, Nat.zero_le _, by (repeat (with_reducible first | exact Chg.refl _ _ | refine Chg.plus ?_ _ _ | refine Chg.alloc ?_ _ | refine Chg.drew ?_)), ⟨fun q => absurd q (by decide), fun ⟨j, q, _⟩ => absurd q (by omega)⟩⟩
        case round =>
          obtain ⟨i, b, rfl, rfl, hi, X⟩ := hrel
          obtain ⟨W0, rfl⟩ : ∃ x, x = wr := ⟨_, rfl⟩
          by_cases hlt : i < M2
          · obtain ⟨q, kq, eq, hmk, hrow0⟩ := HF2.out
            simp only [Value.slice.injEq, true_and] at eq
            obtain ⟨e1, e2⟩ := eq
            obtain ⟨G, o, e3, hrow⟩ := hrow0 (by omega)
            clear hrow0
            subst e2 e1 e3
            obtain ⟨k, n, hkn⟩ : ∃ k n, F2 i = (k, n) := ⟨_, _, rfl⟩
            have HKN : Hid _ := hkn
            have ra : W0.rangeAt G (o + i * 4) (piL (k, n)) := by
              have e := rangeAt_chg X.out.1 (hrow i hlt) id
              rw [hkn] at e
              exact e
            have hkl : bits ≤ lenK k := by
              have := HLN.out i hlt
              rw [hkn] at this
              exact this
            obtain ⟨ca0, ca1, ca2, ca3⟩ := pi_cells4 ra
            have hG : G < W0.heap.size := World.block_lt_of_cell? _ _ ca0
            have hz1 : decide ((bits : Int) ≤ (lenK k : Int)) = true := decide_eq_true (by omega)
            clear hrow ra hkn
            cases b with
            | true =>
              go_wp2_with fail
              go_roundw
              case rel =>
                refine ⟨i + 1, true, by go_num, rfl, by omega, X.out.1.trans (by (repeat (with_reducible first | exact Chg.refl _ _ | refine Chg.plus ?_ _ _ | refine Chg.alloc ?_ _ | refine Chg.drew ?_))), fun _ => ?_, fun _ => rfl⟩
                obtain ⟨j, q1, q2⟩ := X.out.2.1 rfl
                exact ⟨j, by omega, q2⟩
              case measure => simp [intOf]; omega
            | false =>
              by_cases q1 : n ≤ bits
              · have hz2 : decide ((n : Int) ≤ (bits : Int)) = true := decide_eq_true (by omega)
                have HQ1 : Hid _ := q1
                go_wp2_with (first | (go_at_call 18; (with_reducible refine (k18 k _).mono ?_); rintro e w' ⟨rfl, dd, oo, rfl⟩))
                go_roundw
                case rel => exact ⟨i + 1, true, by go_num, rfl, by omega, X.out.1.trans (by (repeat (with_reducible first | exact Chg.refl _ _ | refine Chg.plus ?_ _ _ | refine Chg.alloc ?_ _ | refine Chg.drew ?_))), fun _ => ⟨i, by omega, by rw [HKN.out]; exact HQ1.out⟩, fun _ => rfl⟩
                case measure => simp [intOf]; omega
              · have hz2 : decide ((n : Int) ≤ (bits : Int)) = false := decide_eq_false (by omega)
                have HQ1 : Hid _ := q1
                clear q1
                go_wp2_with fail
                go_roundw
                case rel =>
                  refine ⟨i + 1, false, by go_num, rfl, by omega, X.out.1.trans (by (repeat (with_reducible first | exact Chg.refl _ _ | refine Chg.plus ?_ _ _ | refine Chg.alloc ?_ _ | refine Chg.drew ?_))), fun q => absurd q (by decide), fun ⟨j, z1, z2⟩ => ?_⟩
                  by_cases z3 : j = i
                  · subst z3; rw [HKN.out] at z2; exact absurd z2 HQ1.out
                  · exact X.out.2.2 ⟨j, by omega, z2⟩
                case measure => simp [intOf]; omega
          · obtain rfl : i = M2 := by omega
            have HB : Hid (b = true ↔ ∃ x, InCh h2 m2 x ∧ x.2 ≤ bits) := by
              rw [X.out.2]
              constructor
              · rintro ⟨j, q1, q2⟩
                exact ⟨F2 j, (ChL.mem HCh.out _).1 ⟨j, q1, rfl⟩, q2⟩
              · rintro ⟨x, q1, q2⟩
                obtain ⟨j, q3, q4⟩ := (ChL.mem HCh.out x).2 q1
                exact ⟨j, q3, by rw [q4]; exact q2⟩
            have HX : Hid (Chg (fun _ => False) w5 W0) := X.out.1
            clear X
            rcases HZ.out with ⟨rfl, m0, h0, z1, z2, z3⟩ | ⟨rfl, a, n, h', rfl, rfl, rfl, rfl, z1, z2, z3, z4, z5, z6, z7, m0, h0, z8, z9, z10⟩
            · obtain ⟨rfl, e2⟩ := (canon_iff z1 HCL2.out z2 HML2.out).2 (fun k => Iff.rfl)
              have hb : b = false := by
                cases b with
                | false => rfl
                | true =>
                  obtain ⟨x, q1, q2⟩ := HB.out.1 rfl
                  have := z3 x (q1.congr (fun j hj => (e2 j hj).symm))
                  omega
              subst hb
              clear z1 z2 z3 e2 HZ
              go_wp2_with fail
              refine (c14 _).mono ?_
              rintro e w7 ⟨rfl, Z⟩
              have HC7 : Hid (Chg (fun _ => False) W0 w7) := Chg.trans (by (repeat (with_reducible first | exact Chg.refl _ _ | refine Chg.plus ?_ _ _ | refine Chg.alloc ?_ _ | refine Chg.drew ?_))) Z
              clear Z
              go_wp2_with fail
              go_ret
              exact ⟨rfl, ((((HC1.out.trans HC3.out).trans HC4.out).trans HC5.out).trans HX.out).trans HC7.out⟩
            · obtain ⟨rfl, e2⟩ := (canon_iff z8 HCL2.out z9 HML2.out).2 (fun k => Iff.rfl)
              have hch : InCh h2 m0 (a, n) := z10.congr e2
              have hb : b = true := HB.out.2 ⟨_, hch, z7⟩
              subst hb
              obtain ⟨y1, y2⟩ := inCh_spec (fun i hi => HCL2.out.ok i hi) hch bits z7 z6
              have or1 : okR (pfR a bits) := pfR_ok a bits z5 z6
              obtain ⟨x0, y0, hxy⟩ : ∃ x y, pfR a bits = (x, y) := ⟨_, _, rfl⟩
              have hx0 : x0 = a := by rw [← y1, show x0 = (pfR a bits).1 by rw [hxy]]; rfl
              subst hx0
              rw [hxy] at y2 or1 z4
              have HY2 : Hid _ := y2
              have HR : Hid _ := or1
              have HXY : Hid _ := hxy
              have HRR : Hid _ := z1
              have HCR : Hid _ := z2
              have HMR : Hid _ := z4
              have hB6 := heap_chg HX.out H4.out id
              have hz := rangeAt_of _ _ _ 47 hB6 0 (piL (x0, bits)) (fun j hj => by rw [Nat.zero_add, ← Array.getElem?_toList]; rfl)
              obtain ⟨ca0, ca1, ca2, ca3⟩ := pi_cells4 hz
              simp only [Nat.zero_add] at ca0 ca1 ca2 ca3
              have h4l : w4.heap.size < W0.heap.size := (Array.getElem?_eq_some_iff.1 hB6).1
              have hne := fun w => eq38 x0 x0 z5 z5 true (by simp) w
              have heq : ((bits : Int) == (bits : Int)) = true := by simp
              have hxy2 : Hid (pfR x0 bits = (x0, y0)) := hxy
              clear y1 y2 or1 hxy z1 z2 z4 z8 z9 z10 e2 HZ hB6 hz hch
              go_wp2_with (first | (go_at_call 19; (with_reducible refine (k19x x0 bits z5 z6 x0 y0 hxy2.out _).mono ?_); rintro e w' ⟨rfl, dd, oo, rfl⟩))
              refine (c20 _ m0 h2 (by omega) (x0, y0) HR.out _ (Rd.chg0 HL2.out (HC4.out.trans (HC5.out.trans (HX.out.trans (by (repeat (with_reducible first | exact Chg.refl _ _ | refine Chg.plus ?_ _ _ | refine Chg.alloc ?_ _ | refine Chg.drew ?_))))))) (fun j hj => HCL2.out.ok j hj)).mono ?_
              rintro e w6 ⟨b, rfl, Z⟩
              have hb : b = true := Z.out.2.2 (fun k q => HY2.out k q.1 q.2)
              subst hb
              have HC6 : Hid (Chg (fun _ => False) W0 w6) := Chg.trans (by (repeat (with_reducible first | exact Chg.refl _ _ | refine Chg.plus ?_ _ _ | refine Chg.alloc ?_ _ | refine Chg.drew ?_))) Z.out.1
              have HQ6 : w6.rangeAt (W0.heap.size + oo.size) 0 (rqL (x0, y0)) := rangeAt_chg Z.out.1 (newRqAt _ (x0, y0) _ (by simp)) id
              have cq0 : w6.cell? ⟨W0.heap.size + oo.size, 0, none⟩ = some (.bool (sK x0)) := (rq_cells HQ6).1
              have cq1 : w6.cell? ⟨W0.heap.size + oo.size, 1, none⟩ = some (.int .u64 (hK x0)) := (rq_cells HQ6).2.1
              have cq2 : w6.cell? ⟨W0.heap.size + oo.size, 2, none⟩ = some (.int .u64 (mK x0)) := (rq_cells HQ6).2.2.1
              have cq3 : w6.cell? ⟨W0.heap.size + oo.size, 3, none⟩ = some (.bool (sK y0)) := (rq_cells HQ6).2.2.2.1
              have cq4 : w6.cell? ⟨W0.heap.size + oo.size, 4, none⟩ = some (.int .u64 (hK y0)) := (rq_cells HQ6).2.2.2.2.1
              have cq5 : w6.cell? ⟨W0.heap.size + oo.size, 5, none⟩ = some (.int .u64 (mK y0)) := (rq_cells HQ6).2.2.2.2.2
              have hQl : W0.heap.size + oo.size < w6.heap.size := World.block_lt_of_cell? _ _ cq0
              clear Z HQ6 ca0 ca1 ca2 ca3 h4l hne
              go_wp2_with fail
              refine (c21 _ m0 h2 (by omega) (x0, y0) HR.out _ (Rd.chg0 HL2.out (HC4.out.trans (HC5.out.trans (HX.out.trans (HC6.out.trans (by (repeat (with_reducible first | exact Chg.refl _ _ | refine Chg.plus ?_ _ _ | refine Chg.alloc ?_ _ | refine Chg.drew ?_)))))))) HCL2.out).mono ?_
              rintro e w7 ⟨v7, m7, h7, rfl, Z⟩
              obtain ⟨y1, y2, y3, y4, y5, y6⟩ := Z.out
              have HC7 : Hid (Chg (fun _ => False) w6 w7) := Chg.trans (by (repeat (with_reducible first | exact Chg.refl _ _ | refine Chg.plus ?_ _ _ | refine Chg.alloc ?_ _ | refine Chg.drew ?_))) y1
              have HR7 : Hid (Rd layQ w7 v7 m7 h7) := y2.rd
              have HC7c : Hid (CanonR m7 h7) := y4
              have HEQ : Hid (mr = m7 ∧ ∀ i, i < mr → h' i = h7 i) := (canon_iff HCR.out y4 HMR.out (fun k => (y5 k).trans (and_congr (HML2.out k) Iff.rfl))).2 (fun k => Iff.rfl)
              clear Z y1 y2 y3 y4 y5 cq0 cq1 cq2 cq3 cq4 cq5
              go_wp2_with fail
              refine (c11 _ _ mr m7 h' h7 (by omega) (by omega) _ (Rd.chg0 HRR.out (HC5.out.trans (HX.out.trans (HC6.out.trans (HC7.out.trans (by (repeat (with_reducible first | exact Chg.refl _ _ | refine Chg.plus ?_ _ _ | refine Chg.alloc ?_ _ | refine Chg.drew ?_)))))))) (Rd.chg0 HR7.out (by (repeat (with_reducible first | exact Chg.refl _ _ | refine Chg.plus ?_ _ _ | refine Chg.alloc ?_ _ | refine Chg.drew ?_)))) (fun j hj => HCR.out.ok j hj) (fun j hj => HC7c.out.ok j hj)).mono ?_
              rintro e w8 ⟨b2, rfl, Z⟩
              have HC8 : Hid (Chg (fun _ => False) w7 w8) := Chg.trans (by (repeat (with_reducible first | exact Chg.refl _ _ | refine Chg.plus ?_ _ _ | refine Chg.alloc ?_ _ | refine Chg.drew ?_))) Z.out.1
              have hb2 : b2 = true := Z.out.2.2 HEQ.out
              subst hb2
              clear Z
              go_wp2_with fail
              refine (c14 _).mono ?_
              rintro e w9 ⟨rfl, Z⟩
              have HC9 : Hid (Chg (fun _ => False) w8 w9) := Chg.trans (by (repeat (with_reducible first | exact Chg.refl _ _ | refine Chg.plus ?_ _ _ | refine Chg.alloc ?_ _ | refine Chg.drew ?_))) Z
              clear Z
              go_wp2_with fail
              go_ret
              exact ⟨rfl, ((((HC1.out.trans HC3.out).trans HC4.out).trans HC5.out).trans HX.out).trans (HC6.out.trans (HC7.out.trans (HC8.out.trans HC9.out)))⟩

    · have z2 : decide (32 < (bits : Int)) = false := decide_eq_false (by omega)
      have HSX : Hid (32 < bits → ∀ k, (runS gs ns).1 k → sK k = true) := fun q => absurd q g2
      go_wp2_with fail
      refine (c17 _ ns gs Gro (lim40 _ hns) (by omega) HGS.out bits (by omega) HSX.out _ (Rd.chg0 HS.out (HC3.out.trans (by (repeat (with_reducible first | exact Chg.refl _ _ | refine Chg.plus ?_ _ _ | refine Chg.alloc ?_ _ | refine Chg.drew ?_)))))).mono ?_
      rintro e w4 Z0
      obtain ⟨s, x, y, z, pr, mr, cr, ok, rfl, Z⟩ := Z0.uni
      have HC4 : Hid (Chg (fun _ => False) w3 w4) := Chg.trans (by (repeat (with_reducible first | exact Chg.refl _ _ | refine Chg.plus ?_ _ _ | refine Chg.alloc ?_ _ | refine Chg.drew ?_))) Z.out.1
      have HZ : Hid _ := Z.out.2
      clear Z Z0 HGS HS
      go_wp2_with fail
      refine (c13 _ m2 h2 (by omega) _ (Rd.chg0 HL2.out (HC4.out.trans (by (repeat (with_reducible first | exact Chg.refl _ _ | refine Chg.plus ?_ _ _ | refine Chg.alloc ?_ _ | refine Chg.drew ?_))))) (fun j hj => HCL2.out.ok j hj)).mono ?_
      rintro e w5 ⟨pf2, M2, cf2, F2, rfl, Z⟩
      have HC5 : Hid (Chg (fun _ => False) w4 w5) := Chg.trans (by (repeat (with_reducible first | exact Chg.refl _ _ | refine Chg.plus ?_ _ _ | refine Chg.alloc ?_ _ | refine Chg.drew ?_))) Z.out.1
      have hB4 : w5.heap[w4.heap.size]? = some (.cells #[.bool s, .int .u64 x, .int .u64 y, .int .i64 z] 47 (0, 0)) := heap_chg Z.out.1 (by first | exact blk_new rfl | (simp [World.plus]; done)) id
      have H4 : Hid _ := hB4
      have h4lt : w4.heap.size < w5.heap.size := (Array.getElem?_eq_some_iff.1 hB4).1
      have HF2 : Hid (Rd layI w5 (.slice pf2 M2 cf2) M2 F2) := Z.out.2.1
      have HCh : Hid (ChL h2 m2 M2 F2) := Z.out.2.2.1
      have hM2 : M2 ≤ 257 * m2 := Z.out.2.2.2
      have HLN : Hid (∀ j, j < M2 → bits ≤ lenK (F2 j).1) := by
        intro j hj
        have q : InCh h2 m2 ((F2 j).1, (F2 j).2) := (ChL.mem HCh.out _).1 ⟨j, hj, rfl⟩
        refine (inCh_ok (fun i hi => HCL2.out.ok i hi) (fun i hi => ?_) q).2
        by_cases q : 32 < bits
        · rw [lenK_six _ (HSX.out q _ ((HML2.out _).1 ⟨i, hi, Nat.le_refl _, (HCL2.out.ok i hi).le⟩))]
          omega
        · exact Nat.le_trans (by omega) (lenK_four _)
      clear Z hB4
      go_wp2_with fail
      go_loopw [12, 46] (fun t12 t46 wr => ∃ (i : Nat) (b : Bool), t46 = .int .i64 i ∧ t12 = .bool b ∧ i ≤ M2 ∧ Hid (Chg (fun _ => False) w5 wr ∧ (b = true ↔ ∃ j, j < i ∧ (F2 j).2 ≤ bits)))
        (fun _ t46 _ => M2 - (intOf t46).toNat)
      case atStart => exact ⟨0, false, rfl, rfl, Nat.zero_le _, by (repeat (with_reducible first | exact Chg.refl _ _ | refine Chg.plus ?_ _ _ | refine Chg.alloc ?_ _ | refine Chg.drew ?_)), ⟨fun q => absurd q (by decide), fun ⟨j, q, _⟩ => absurd q (by omega)⟩⟩
      case round =>
        obtain ⟨i, b, rfl, rfl, hi, X⟩ := hrel
        obtain ⟨W0, rfl⟩ : ∃ x, x = wr := ⟨_, rfl⟩
        by_cases hlt : i < M2
        · obtain ⟨q, kq, eq, hmk, hrow0⟩ := HF2.out
          simp only [Value.slice.injEq, true_and] at eq
          obtain ⟨e1, e2⟩ := eq
          obtain ⟨G, o, e3, hrow⟩ := hrow0 (by omega)
          clear hrow0
          subst e2 e1 e3
          obtain ⟨k, n, hkn⟩ : ∃ k n, F2 i = (k, n) := ⟨_, _, rfl⟩
          have HKN : Hid _ := hkn
          have ra : W0.rangeAt G (o + i * 4) (piL (k, n)) := by
            have e := rangeAt_chg X.out.1 (hrow i hlt) id
            rw [hkn] at e
            exact e
          have hkl : bits ≤ lenK k := by
            have := HLN.out i hlt
            rw [hkn] at this
            exact this
          obtain ⟨ca0, ca1, ca2, ca3⟩ := pi_cells4 ra
          have hG : G < W0.heap.size := World.block_lt_of_cell? _ _ ca0
          have hz1 : decide ((bits : Int) ≤ (lenK k : Int)) = true := decide_eq_true (by omega)
          clear hrow ra hkn
          cases b with
          | true =>
            go_wp2_with fail
            go_roundw
            case rel =>
              refine ⟨i + 1, true, by go_num, rfl, by omega, X.out.1.trans (by (repeat (with_reducible first | exact Chg.refl _ _ | refine Chg.plus ?_ _ _ | refine Chg.alloc ?_ _ | refine Chg.drew ?_))), fun _ => ?_, fun _ => rfl⟩
              obtain ⟨j, q1, q2⟩ := X.out.2.1 rfl
              exact ⟨j, by omega, q2⟩
            case measure => simp [intOf]; omega
          | false =>
            by_cases q1 : n ≤ bits
            · have hz2 : decide ((n : Int) ≤ (bits : Int)) = true := decide_eq_true (by omega)
              have HQ1 : Hid _ := q1
              go_wp2_with (first | (go_at_call 18; (with_reducible refine (k18 k _).mono ?_); rintro e w' ⟨rfl, dd, oo, rfl⟩))
              go_roundw
              case rel => exact ⟨i + 1, true, by go_num, rfl, by omega, X.out.1.trans (by (repeat (with_reducible first | exact Chg.refl _ _ | refine Chg.plus ?_ _ _ | refine Chg.alloc ?_ _ | refine Chg.drew ?_))), fun _ => ⟨i, by omega, by rw [HKN.out]; exact HQ1.out⟩, fun _ => rfl⟩
              case measure => simp [intOf]; omega
            · have hz2 : decide ((n : Int) ≤ (bits : Int)) = false := decide_eq_false (by omega)
              have HQ1 : Hid _ := q1
              clear q1
              go_wp2_with fail
              go_roundw
              case rel =>
                refine ⟨i + 1, false, by go_num, rfl, by omega, X.out.1.trans (by (repeat (with_reducible first | exact Chg.refl _ _ | refine Chg.plus ?_ _ _ | refine Chg.alloc ?_ _ | refine Chg.drew ?_))), fun q => absurd q (by decide), fun ⟨j, z1, z2⟩ => ?_⟩
                by_cases z3 : j = i
                · subst z3; rw [HKN.out] at z2; exact absurd z2 HQ1.out
                · exact X.out.2.2 ⟨j, by omega, z2⟩
              case measure => simp [intOf]; omega
        · obtain rfl : i = M2 := by omega
          have HB : Hid (b = true ↔ ∃ x, InCh h2 m2 x ∧ x.2 ≤ bits) := by
            rw [X.out.2]
            constructor
            · rintro ⟨j, q1, q2⟩
              exact ⟨F2 j, (ChL.mem HCh.out _).1 ⟨j, q1, rfl⟩, q2⟩
            · rintro ⟨x, q1, q2⟩
              obtain ⟨j, q3, q4⟩ := (ChL.mem HCh.out x).2 q1
              exact ⟨j, q3, by rw [q4]; exact q2⟩
          have HX : Hid (Chg (fun _ => False) w5 W0) := X.out.1
          clear X
          rcases HZ.out with ⟨rfl, m0, h0, z1, z2, z3⟩ | ⟨rfl, a, n, h', rfl, rfl, rfl, rfl, z1, z2, z3, z4, z5, z6, z7, m0, h0, z8, z9, z10⟩
          · obtain ⟨rfl, e2⟩ := (canon_iff z1 HCL2.out z2 HML2.out).2 (fun k => Iff.rfl)
            have hb : b = false := by
              cases b with
              | false => rfl
              | true =>
                obtain ⟨x, q1, q2⟩ := HB.out.1 rfl
                have := z3 x (q1.congr (fun j hj => (e2 j hj).symm))
                omega
            subst hb
            clear z1 z2 z3 e2 HZ
            go_wp2_with fail
            refine (c14 _).mono ?_
            rintro e w7 ⟨rfl, Z⟩
            have HC7 : Hid (Chg (fun _ => False) W0 w7) := Chg.trans (by (repeat (with_reducible first | exact Chg.refl _ _ | refine Chg.plus ?_ _ _ | refine Chg.alloc ?_ _ | refine Chg.drew ?_))) Z
            clear Z
            go_wp2_with fail
            go_ret
            exact ⟨rfl, ((((HC1.out.trans HC3.out).trans HC4.out).trans HC5.out).trans HX.out).trans HC7.out⟩
          · obtain ⟨rfl, e2⟩ := (canon_iff z8 HCL2.out z9 HML2.out).2 (fun k => Iff.rfl)
            have hch : InCh h2 m0 (a, n) := z10.congr e2
            have hb : b = true := HB.out.2 ⟨_, hch, z7⟩
            subst hb
            obtain ⟨y1, y2⟩ := inCh_spec (fun i hi => HCL2.out.ok i hi) hch bits z7 z6
            have or1 : okR (pfR a bits) := pfR_ok a bits z5 z6
            obtain ⟨x0, y0, hxy⟩ : ∃ x y, pfR a bits = (x, y) := ⟨_, _, rfl⟩
            have hx0 : x0 = a := by rw [← y1, show x0 = (pfR a bits).1 by rw [hxy]]; rfl
            subst hx0
            rw [hxy] at y2 or1 z4
            have HY2 : Hid _ := y2
            have HR : Hid _ := or1
            have HXY : Hid _ := hxy
            have HRR : Hid _ := z1
            have HCR : Hid _ := z2
            have HMR : Hid _ := z4
            have hB6 := heap_chg HX.out H4.out id
            have hz := rangeAt_of _ _ _ 47 hB6 0 (piL (x0, bits)) (fun j hj => by rw [Nat.zero_add, ← Array.getElem?_toList]; rfl)
            obtain ⟨ca0, ca1, ca2, ca3⟩ := pi_cells4 hz
            simp only [Nat.zero_add] at ca0 ca1 ca2 ca3
            have h4l : w4.heap.size < W0.heap.size := (Array.getElem?_eq_some_iff.1 hB6).1
            have hne := fun w => eq38 x0 x0 z5 z5 true (by simp) w
            have heq : ((bits : Int) == (bits : Int)) = true := by simp
            have hxy2 : Hid (pfR x0 bits = (x0, y0)) := hxy
            clear y1 y2 or1 hxy z1 z2 z4 z8 z9 z10 e2 HZ hB6 hz hch
            go_wp2_with (first | (go_at_call 19; (with_reducible refine (k19x x0 bits z5 z6 x0 y0 hxy2.out _).mono ?_); rintro e w' ⟨rfl, dd, oo, rfl⟩))
            refine (c20 _ m0 h2 (by omega) (x0, y0) HR.out _ (Rd.chg0 HL2.out (HC4.out.trans (HC5.out.trans (HX.out.trans (by (repeat (with_reducible first | exact Chg.refl _ _ | refine Chg.plus ?_ _ _ | refine Chg.alloc ?_ _ | refine Chg.drew ?_))))))) (fun j hj => HCL2.out.ok j hj)).mono ?_
            rintro e w6 ⟨b, rfl, Z⟩
            have hb : b = true := Z.out.2.2 (fun k q => HY2.out k q.1 q.2)
            subst hb
            have HC6 : Hid (Chg (fun _ => False) W0 w6) := Chg.trans (by (repeat (with_reducible first | exact Chg.refl _ _ | refine Chg.plus ?_ _ _ | refine Chg.alloc ?_ _ | refine Chg.drew ?_))) Z.out.1
            have HQ6 : w6.rangeAt (W0.heap.size + oo.size) 0 (rqL (x0, y0)) := rangeAt_chg Z.out.1 (newRqAt _ (x0, y0) _ (by simp)) id
            have cq0 : w6.cell? ⟨W0.heap.size + oo.size, 0, none⟩ = some (.bool (sK x0)) := (rq_cells HQ6).1
            have cq1 : w6.cell? ⟨W0.heap.size + oo.size, 1, none⟩ = some (.int .u64 (hK x0)) := (rq_cells HQ6).2.1
            have cq2 : w6.cell? ⟨W0.heap.size + oo.size, 2, none⟩ = some (.int .u64 (mK x0)) := (rq_cells HQ6).2.2.1
            have cq3 : w6.cell? ⟨W0.heap.size + oo.size, 3, none⟩ = some (.bool (sK y0)) := (rq_cells HQ6).2.2.2.1
            have cq4 : w6.cell? ⟨W0.heap.size + oo.size, 4, none⟩ = some (.int .u64 (hK y0)) := (rq_cells HQ6).2.2.2.2.1
            have cq5 : w6.cell? ⟨W0.heap.size + oo.size, 5, none⟩ = some (.int .u64 (mK y0)) := (rq_cells HQ6).2.2.2.2.2
            have hQl : W0.heap.size + oo.size < w6.heap.size := World.block_lt_of_cell? _ _ cq0
            clear Z HQ6 ca0 ca1 ca2 ca3 h4l hne
            go_wp2_with fail
            refine (c21 _ m0 h2 (by omega) (x0, y0) HR.out _ (Rd.chg0 HL2.out (HC4.out.trans (HC5.out.trans (HX.out.trans (HC6.out.trans (by (repeat (with_reducible first | exact Chg.refl _ _ | refine Chg.plus ?_ _ _ | refine Chg.alloc ?_ _ | refine Chg.drew ?_)))))))) HCL2.out).mono ?_
            rintro e w7 ⟨v7, m7, h7, rfl, Z⟩
            obtain ⟨y1, y2, y3, y4, y5, y6⟩ := Z.out
            have HC7 : Hid (Chg (fun _ => False) w6 w7) := Chg.trans (by (repeat (with_reducible first | exact Chg.refl _ _ | refine Chg.plus ?_ _ _ | refine Chg.alloc ?_ _ | refine Chg.drew ?_))) y1
            have HR7 : Hid (Rd layQ w7 v7 m7 h7) := y2.rd
            have HC7c : Hid (CanonR m7 h7) := y4
            have HEQ : Hid (mr = m7 ∧ ∀ i, i < mr → h' i = h7 i) := (canon_iff HCR.out y4 HMR.out (fun k => (y5 k).trans (and_congr (HML2.out k) Iff.rfl))).2 (fun k => Iff.rfl)
            clear Z y1 y2 y3 y4 y5 cq0 cq1 cq2 cq3 cq4 cq5
            go_wp2_with fail
            refine (c11 _ _ mr m7 h' h7 (by omega) (by omega) _ (Rd.chg0 HRR.out (HC5.out.trans (HX.out.trans (HC6.out.trans (HC7.out.trans (by (repeat (with_reducible first | exact Chg.refl _ _ | refine Chg.plus ?_ _ _ | refine Chg.alloc ?_ _ | refine Chg.drew ?_)))))))) (Rd.chg0 HR7.out (by (repeat (with_reducible first | exact Chg.refl _ _ | refine Chg.plus ?_ _ _ | refine Chg.alloc ?_ _ | refine Chg.drew ?_)))) (fun j hj => HCR.out.ok j hj) (fun j hj => HC7c.out.ok j hj)).mono ?_
            rintro e w8 ⟨b2, rfl, Z⟩
            have HC8 : Hid (Chg (fun _ => False) w7 w8) := Chg.trans (by (repeat (with_reducible first | exact Chg.refl _ _ | refine Chg.plus ?_ _ _ | refine Chg.alloc ?_ _ | refine Chg.drew ?_))) Z.out.1
            have hb2 : b2 = true := Z.out.2.2 HEQ.out
            subst hb2
            clear Z
            go_wp2_with fail
            refine (c14 _).mono ?_
            rintro e w9 ⟨rfl, Z⟩
            have HC9 : Hid (Chg (fun _ => False) w8 w9) := Chg.trans (by (repeat (with_reducible first | exact Chg.refl _ _ | refine Chg.plus ?_ _ _ | refine Chg.alloc ?_ _ | refine Chg.drew ?_))) Z
            clear Z
            go_wp2_with fail
            go_ret
            exact ⟨rfl, ((((HC1.out.trans HC3.out).trans HC4.out).trans HC5.out).trans HX.out).trans (HC6.out.trans (HC7.out.trans (HC8.out.trans HC9.out)))⟩

end Go.Proofs.YtmoabfpdlbngeaaGreatDoor
end
