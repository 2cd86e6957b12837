/-
  Part of the proofs on the laws of pub-addresssets: joined texts (SE).
-/
import Derived.Test.YtmoabfpdlbngeaaGreatDoorVSD
section
namespace Go.Proofs.YtmoabfpdlbngeaaGreatDoor
open Go.RowKit
set_option maxHeartbeats 400000
set_option linter.unusedVariables false
set_option linter.unusedSimpArgs false
/-- The loop of Plus: two rows beside the block of the range so far. -/
structure PlR (w wr : World) (r : Nat × Nat) (va : Value) (a : Nat) (fa : Nat → Nat × Nat) (vb : Value) (b : Nat) (fb : Nat → Nat × Nat) : Prop where
  chg : Chg (fun _ => False) w wr
  oa : OwnDV layQ 40 wr va a fa
  ob : OwnDV layQ 40 wr vb b fb
  ga : ∀ k, va.ownBlock = some k → w.heap.size + 1 ≤ k
  gb : ∀ k, vb.ownBlock = some k → w.heap.size + 1 ≤ k
  ne : ∀ k, va.ownBlock = some k → vb.ownBlock ≠ some k
  blk : wr.heap[w.heap.size]? = some (.cells #[.bool (sK r.1), .int .u64 (hK r.1), .int .u64 (mK r.1), .bool (sK r.2), .int .u64 (hK r.2), .int .u64 (mK r.2)] 40 (0, 0))
theorem PlR.lt {w wr : World} {r : Nat × Nat} {va : Value} {a : Nat} {fa : Nat → Nat × Nat} {vb : Value} {b : Nat} {fb : Nat → Nat × Nat} (H : PlR w wr r va a fa vb b fb) : w.heap.size < wr.heap.size := (Array.getElem?_eq_some_iff.1 H.blk).1
theorem PlR.cells {w wr : World} {r : Nat × Nat} {va : Value} {a : Nat} {fa : Nat → Nat × Nat} {vb : Value} {b : Nat} {fb : Nat → Nat × Nat} (H : PlR w wr r va a fa vb b fb) : wr.rangeAt w.heap.size 0 (rqL r) := rangeAt_of _ _ _ 40 H.blk 0 _ (fun j hj => by rw [Nat.zero_add, ← Array.getElem?_toList]; rfl)
theorem PlR.free {w wr : World} {r : Nat × Nat} {va : Value} {a : Nat} {fa : Nat → Nat × Nat} {vb : Value} {b : Nat} {fb : Nat → Nat × Nat} (H : PlR w wr r va a fa vb b fb) (j : Nat) : wr.frozen? ⟨w.heap.size, j, none⟩ = false := by
  have := H.blk
  unfold World.frozen?; simp [this]
theorem PlR.chg0 {w wr : World} {r : Nat × Nat} {va : Value} {a : Nat} {fa : Nat → Nat × Nat} {vb : Value} {b : Nat} {fb : Nat → Nat × Nat} {W : World} (H : PlR w wr r va a fa vb b fb) (C : Chg (fun _ => False) wr W) : PlR w W r va a fa vb b fb :=
  ⟨H.chg.trans C, H.oa.chg C (fun _ _ => id), H.ob.chg C (fun _ _ => id), H.ga, H.gb, H.ne, (C.block _ H.lt id).trans H.blk⟩
theorem PlR.appA {w wr : World} {r : Nat × Nat} {va : Value} {a : Nat} {fa : Nat → Nat × Nat} {vb : Value} {b : Nat} {fb : Nat → Nat × Nat} {w2 : World} {v' : Value} {m' : Nat} {h' : Nat → Nat × Nat} (H : PlR w wr r va a fa vb b fb) (hO : OwnDV layQ 40 w2 v' m' h') (hC : Chg (AtV va) wr w2) (hat : v'.ownBlock = va.ownBlock ∨ v'.ownBlock = some wr.heap.size) : PlR w w2 r v' m' h' vb b fb := by
  refine ⟨Chg.app H.chg hC (fun k e => by have := H.ga k e; omega), hO, H.ob.chg hC (fun k e q => H.ne k q e), fun k e => ?_, H.gb, fun k e q => ?_, (hC.block _ H.lt (fun q => by have := H.ga _ q; omega)).trans H.blk⟩
  · rcases hat with q | q
    · exact H.ga k (by rw [← q]; exact e)
    · rw [q] at e
      have := H.lt
      simp only [Option.some.injEq] at e
      omega
  · rcases hat with q2 | q2
    · exact H.ne k (by rw [← q2]; exact e) q
    · rw [q2] at e
      have := H.ob.lt q
      simp only [Option.some.injEq] at e
      omega
theorem PlR.appB {w wr : World} {r : Nat × Nat} {va : Value} {a : Nat} {fa : Nat → Nat × Nat} {vb : Value} {b : Nat} {fb : Nat → Nat × Nat} {w2 : World} {v' : Value} {m' : Nat} {h' : Nat → Nat × Nat} (H : PlR w wr r va a fa vb b fb) (hO : OwnDV layQ 40 w2 v' m' h') (hC : Chg (AtV vb) wr w2) (hat : v'.ownBlock = vb.ownBlock ∨ v'.ownBlock = some wr.heap.size) : PlR w w2 r va a fa v' m' h' := by
  refine ⟨Chg.app H.chg hC (fun k e => by have := H.gb k e; omega), H.oa.chg hC (fun k e q => H.ne k e q), hO, H.ga, fun k e => ?_, fun k e q => ?_, (hC.block _ H.lt (fun q => by have := H.gb _ q; omega)).trans H.blk⟩
  · rcases hat with q | q
    · exact H.gb k (by rw [← q]; exact e)
    · rw [q] at e
      have := H.lt
      simp only [Option.some.injEq] at e
      omega
  · rcases hat with q2 | q2
    · exact H.ne k e (by rw [← q2]; exact q)
    · rw [q2] at q
      have := H.oa.lt e
      simp only [Option.some.injEq] at q
      omega
theorem set1 (W : World) (g : Nat) (cs : Array Value) (j : Nat) (v : Value) (hw : W.heap[g]? = some (.cells cs 40 (0, 0))) : (W.setCell ⟨g, j, none⟩ v).heap[g]? = some (.cells (cs.setIfInBounds j v) 40 (0, 0)) := by
  rw [setCell_eq_setRow W g j _ 40 (0, 0) v hw]
  exact setRow_heap W g _ _ 40 (0, 0) hw
theorem set6 (W : World) (g : Nat) (x0 x1 x2 x3 x4 x5 v0 v1 v2 v3 v4 v5 : Value) (h : W.heap[g]? = some (.cells #[x0, x1, x2, x3, x4, x5] 40 (0, 0))) :
    ((((((W.setCell ⟨g, 0, none⟩ v0).setCell ⟨g, 1, none⟩ v1).setCell ⟨g, 2, none⟩ v2).setCell ⟨g, 3, none⟩ v3).setCell ⟨g, 4, none⟩ v4).setCell ⟨g, 5, none⟩ v5).heap[g]? = some (.cells #[v0, v1, v2, v3, v4, v5] 40 (0, 0)) := by
  have h6 := set1 _ g _ 5 v5 (set1 _ g _ 4 v4 (set1 _ g _ 3 v3 (set1 _ g _ 2 v2 (set1 _ g _ 1 v1 (set1 W g _ 0 v0 h)))))
  rw [h6]
  simp
theorem PlR.set {w wr : World} {r : Nat × Nat} {va : Value} {a : Nat} {fa : Nat → Nat × Nat} {vb : Value} {b : Nat} {fb : Nat → Nat × Nat} (H : PlR w wr r va a fa vb b fb) (k1 k2 : Nat) : PlR w ((((((wr.setCell ⟨w.heap.size, 0, none⟩ (.bool (sK k1))).setCell ⟨w.heap.size, 1, none⟩ (.int .u64 (hK k1))).setCell ⟨w.heap.size, 2, none⟩ (.int .u64 (mK k1))).setCell ⟨w.heap.size, 3, none⟩ (.bool (sK k2))).setCell ⟨w.heap.size, 4, none⟩ (.int .u64 (hK k2))).setCell ⟨w.heap.size, 5, none⟩ (.int .u64 (mK k2))) (k1, k2) va a fa vb b fb := by
  have C : Chg (fun k => k = w.heap.size) wr ((((((wr.setCell ⟨w.heap.size, 0, none⟩ (.bool (sK k1))).setCell ⟨w.heap.size, 1, none⟩ (.int .u64 (hK k1))).setCell ⟨w.heap.size, 2, none⟩ (.int .u64 (mK k1))).setCell ⟨w.heap.size, 3, none⟩ (.bool (sK k2))).setCell ⟨w.heap.size, 4, none⟩ (.int .u64 (hK k2))).setCell ⟨w.heap.size, 5, none⟩ (.int .u64 (mK k2))) := by
    exact ((((((Chg.refl (fun k => k = w.heap.size) wr).setCell ⟨w.heap.size, 0, none⟩ (.bool (sK k1)) (fun _ => rfl)).setCell ⟨w.heap.size, 1, none⟩ (.int .u64 (hK k1)) (fun _ => rfl)).setCell ⟨w.heap.size, 2, none⟩ (.int .u64 (mK k1)) (fun _ => rfl)).setCell ⟨w.heap.size, 3, none⟩ (.bool (sK k2)) (fun _ => rfl)).setCell ⟨w.heap.size, 4, none⟩ (.int .u64 (hK k2)) (fun _ => rfl)).setCell ⟨w.heap.size, 5, none⟩ (.int .u64 (mK k2)) (fun _ => rfl)
  refine ⟨⟨C.os.trans H.chg.os, C.tape.trans H.chg.tape, C.output.trans H.chg.output, Nat.le_trans H.chg.size C.size, fun k hk _ => (C.block k (Nat.lt_of_lt_of_le hk H.chg.size) (by omega)).trans (H.chg.block k hk id)⟩, H.oa.chg C (fun k e q => by have := H.ga k e; omega), H.ob.chg C (fun k e q => by have := H.gb k e; omega), H.ga, H.gb, H.ne, ?_⟩
  exact set6 wr _ _ _ _ _ _ _ _ _ _ _ _ _ H.blk
set_option maxHeartbeats 2000000 in
theorem c36 (v0 : Value) (n : Nat) (f : Nat → Nat × Nat) (hn : n ≤ 40000000) (r0 : Nat × Nat) (or0 : okR r0) (w : World) (H : Rd layQ w v0 n f) (C : CanonR n f) :
    Calls Tryz.prog 36 #[v0, .agg #[.bool (sK r0.1), .int .u64 (hK r0.1), .int .u64 (mK r0.1), .bool (sK r0.2), .int .u64 (hK r0.2), .int .u64 (mK r0.2)]] w fun e w' => ∃ v m h, e = .returned v ∧ Hid (ResQ w w' v m h (fun k => MemR n f k ∨ (r0.1 ≤ k ∧ k ≤ r0.2)) (n + 1)) := by
  obtain ⟨p, c, rfl, hnc, hr⟩ := H
  have HR : Hid _ := hr
  have HC : Hid _ := C
  have HO0 : Hid _ := or0
  clear hr C or0
  go_enter Tryz.func36, Tryz.ntmps36

  go_wp2_with fail
  go_loopw [5, 6, 11] (fun t5 t6 t11 wr => ∃ (i a b : Nat) (pa pb : Option Addr) (ca cb : Nat) (r : Nat × Nat) (fa fb : Nat → Nat × Nat), t11 = .int .i64 i ∧ t5 = .slice pa a ca ∧ t6 = .slice pb b cb ∧ i ≤ n ∧ Hid (PlR w wr r (.slice pa a ca) a fa (.slice pb b cb) b fb ∧ PlsI n f r0 i a fa r b fb))
    (fun _ _ t11 _ => n - (intOf t11).toNat)
  case atStart => exact ⟨0, 0, 0, none, none, 0, 0, r0, f, f, rfl, rfl, rfl, Nat.zero_le _, ⟨by (repeat (with_reducible first |  refine Chg.plus ?_ _ _ | refine Chg.alloc ?_ _ | refine Chg.drew ?_ | exact Chg.refl _ _)), .nil _, .nil _, fun k e => by simp [Value.ownBlock] at e, fun k e => by simp [Value.ownBlock] at e, fun k e => by simp [Value.ownBlock] at e, heap_alloc_new w _⟩, .start HO0.out⟩
  case round =>
    obtain ⟨i, a, b, pa, pb, ca, cb, r, fa, fb, rfl, rfl, rfl, hi, X⟩ := hrel
    have HM : Hid (PlR w wr r (.slice pa a ca) a fa (.slice pb b cb) b fb) := X.out.1
    have HX : Hid (PlsI n f r0 i a fa r b fb) := X.out.2
    have or : Hid (okR r) := X.out.2.okr
    clear X
    have or1 := or.out.a
    have or2 := or.out.b
    obtain ⟨cb0, cb1, cb2, cb3, cb4, cb5⟩ := rq_cells HM.out.cells
    have fb0 := HM.out.free 0
    have fb1 := HM.out.free 1
    have fb2 := HM.out.free 2
    have fb3 := HM.out.free 3
    have fb4 := HM.out.free 4
    have fb5 := HM.out.free 5
    have hB : w.heap.size < wr.heap.size := HM.out.lt
    by_cases hlt : i < n
    · obtain ⟨G, o, rfl, hrow⟩ := HR.out (by omega)
      have r1 : wr.rangeAt G (o + i * 6) (rqL (f i)) := rangeAt_chg HM.out.chg (hrow i hlt) id
      obtain ⟨ca0, ca1, ca2, ca3, ca4, ca5⟩ := rq_cells r1
      have hG : G < wr.heap.size := World.block_lt_of_cell? _ _ ca0
      have oki : Hid (okR (f i)) := HC.out.ok i hlt
      have oi1 := oki.out.a
      have oi2 := oki.out.b
      have g1 := oki.out.le
      have g2 := or.out.le
      clear hrow r1
      by_cases hap : (f i).2 < r.1 ∨ r.2 < (f i).1
      · have HAP : Hid (decide ((f i).2 < r.1 ∨ r.2 < (f i).1) = true) := decide_eq_true hap
        by_cases ht1 : (f i).2 + 1 = r.1
        · have HT1 : Hid (decide ((f i).2 + 1 = r.1) = true) := decide_eq_true ht1
          have HT2 : Hid True := trivial
          have hz : (f i).1 ≤ r.2 + 1 ∧ r.1 ≤ (f i).2 + 1 := by omega
          clear ht1 hap
          have HI : Hid (PlsI n f r0 (i + 1) a fa (min (f i).1 r.1, max (f i).2 r.2) b fb) := HX.out.merge HC.out hlt (by omega) (by omega)
          clear HX
          go_wp2_with (first | (go_at_call 47; (with_reducible refine (k47 (f i) r oki.out or.out _ HAP.out _).mono ?_); rintro e w' ⟨rfl, dd, oo, rfl⟩) | (go_at_call 86; (with_reducible refine (k86 (f i) r oi2 or1 _ HT1.out _).mono ?_); rintro e w' ⟨rfl, dd, oo, rfl⟩) | (go_at_call 86; (with_reducible refine (k86 r (f i) or2 oi1 _ HT2.out _).mono ?_); rintro e w' ⟨rfl, dd, oo, rfl⟩))
          refine wp_region_plus_tail 11 (by kernel_rfl) (by kernel_rfl) ?_
          simp only [List.take_succ_cons, List.take_zero, List.drop_succ_cons, List.drop_zero]
          repeat (go_big_quiet_step (first | (go_at_call 50; (with_reducible exact Calls.plus_of (k50 (f i).1 r.1 oi1 or1 _))) | (go_at_call 51; (with_reducible exact Calls.plus_of (k51 (f i).2 r.2 oi2 or2 _)))))
          refine wpQuiet_nil ?_
          intro _ hq
          obtain ⟨⟨dq, oq⟩, rfl⟩ := hq
          go_wp2_with fail
          go_roundw
          case rel => exact ⟨i + 1, a, b, pa, pb, ca, cb, (min (f i).1 r.1, max (f i).2 r.2), fa, fb, by go_num, rfl, rfl, by omega, (HM.out.set _ _).chg0 (by (repeat (with_reducible first | exact Chg.refl _ _ | refine Chg.plus ?_ _ _ | refine Chg.alloc ?_ _ | refine Chg.drew ?_))), HI.out⟩
          case measure => simp [intOf]; omega

        · have HT1 : Hid (decide ((f i).2 + 1 = r.1) = false) := decide_eq_false ht1
          by_cases ht2 : r.2 + 1 = (f i).1
          · have HT2 : Hid (decide (r.2 + 1 = (f i).1) = true) := decide_eq_true ht2
            have hz : (f i).1 ≤ r.2 + 1 ∧ r.1 ≤ (f i).2 + 1 := by omega
            clear ht2 ht1 hap
            have HI : Hid (PlsI n f r0 (i + 1) a fa (min (f i).1 r.1, max (f i).2 r.2) b fb) := HX.out.merge HC.out hlt (by omega) (by omega)
            clear HX
            go_wp2_with (first | (go_at_call 47; (with_reducible refine (k47 (f i) r oki.out or.out _ HAP.out _).mono ?_); rintro e w' ⟨rfl, dd, oo, rfl⟩) | (go_at_call 86; (with_reducible refine (k86 (f i) r oi2 or1 _ HT1.out _).mono ?_); rintro e w' ⟨rfl, dd, oo, rfl⟩) | (go_at_call 86; (with_reducible refine (k86 r (f i) or2 oi1 _ HT2.out _).mono ?_); rintro e w' ⟨rfl, dd, oo, rfl⟩))
            refine wp_region_plus_tail 11 (by kernel_rfl) (by kernel_rfl) ?_
            simp only [List.take_succ_cons, List.take_zero, List.drop_succ_cons, List.drop_zero]
            repeat (go_big_quiet_step (first | (go_at_call 50; (with_reducible exact Calls.plus_of (k50 (f i).1 r.1 oi1 or1 _))) | (go_at_call 51; (with_reducible exact Calls.plus_of (k51 (f i).2 r.2 oi2 or2 _)))))
            refine wpQuiet_nil ?_
            intro _ hq
            obtain ⟨⟨dq, oq⟩, rfl⟩ := hq
            go_wp2_with fail
            go_roundw
            case rel => exact ⟨i + 1, a, b, pa, pb, ca, cb, (min (f i).1 r.1, max (f i).2 r.2), fa, fb, by go_num, rfl, rfl, by omega, (HM.out.set _ _).chg0 (by (repeat (with_reducible first | exact Chg.refl _ _ | refine Chg.plus ?_ _ _ | refine Chg.alloc ?_ _ | refine Chg.drew ?_))), HI.out⟩
            case measure => simp [intOf]; omega

          · have HT2 : Hid (decide (r.2 + 1 = (f i).1) = false) := decide_eq_false ht2
            by_cases q1 : (f i).1 < r.1
            · have hz : (f i).2 + 1 < r.1 := by omega
              clear ht1 ht2 hap
              have HI : Hid (PlsI n f r0 (i + 1) (a + 1) (snoc a fa (f i)) r b fb) := HX.out.ahead HC.out hlt (by omega)
              obtain ⟨y1, hy1⟩ : ∃ y, cmpN (f i).1 r.1 = y := ⟨_, rfl⟩
              have d1 : y1 < 0 := by rw [← hy1]; unfold cmpN; (repeat' split) <;> omega
              have HY1 : Hid _ := hy1
              have hle : a + b ≤ n := by have := HX.out.le; omega
              clear hy1 HX g1 g2
              go_wp2_with (first | (go_at_call 47; (with_reducible refine (k47 (f i) r oki.out or.out _ HAP.out _).mono ?_); rintro e w' ⟨rfl, dd, oo, rfl⟩) | (go_at_call 86; (with_reducible refine (k86 (f i) r oi2 or1 _ HT1.out _).mono ?_); rintro e w' ⟨rfl, dd, oo, rfl⟩) | (go_at_call 86; (with_reducible refine (k86 r (f i) or2 oi1 _ HT2.out _).mono ?_); rintro e w' ⟨rfl, dd, oo, rfl⟩) | (go_at_call 39; (with_reducible refine (k39 _ _ oi1 or1 y1 HY1.out _).mono ?_); rintro e w' ⟨rfl, dd, oo, rfl⟩) | (at_builtin; refine appD rfl (.tmp 52) (.tmp 54) 25 48 infoQ under25 (by omega) rfl (.slice pa a ca) a fa rfl ((HM.out.chg0 (by (repeat (with_reducible first | exact Chg.refl _ _ | refine Chg.plus ?_ _ _ | refine Chg.alloc ?_ _ | refine Chg.drew ?_)))).oa) 1 (fun _ => (f i)) (Rd.newAt _ (f i) (by simp) rfl) (by omega) ?_; intro p1 c1 w1 hO1 hC1 hat1; have HM1 : Hid (PlR w w1 r (.slice p1 (a + 1) c1) (a + 1) (snoc a fa (f i)) (.slice pb b cb) b fb) := PlR.appA (HM.out.chg0 (by (repeat (with_reducible first | exact Chg.refl _ _ | refine Chg.plus ?_ _ _ | refine Chg.alloc ?_ _ | refine Chg.drew ?_)))) hO1.out hC1 hat1.out; clear hO1 hC1 hat1; have hl1 := HM1.out.lt; obtain ⟨db0, db1, db2, db3, db4, db5⟩ := rq_cells HM1.out.cells))
              go_roundw
              case rel => exact ⟨i + 1, a + 1, b, p1, pb, c1, cb, r, snoc a fa (f i), fb, by go_num, rfl, rfl, by omega, HM1.out.chg0 (by (repeat (with_reducible first | exact Chg.refl _ _ | refine Chg.plus ?_ _ _ | refine Chg.alloc ?_ _ | refine Chg.drew ?_))), HI.out⟩
              case measure => simp [intOf]; omega

            · have hz : r.2 + 1 < (f i).1 := by omega
              clear ht1 ht2 hap
              have HI : Hid (PlsI n f r0 (i + 1) a fa r (b + 1) (snoc b fb (f i))) := HX.out.behind HC.out hlt (by omega)
              obtain ⟨y1, hy1⟩ : ∃ y, cmpN (f i).1 r.1 = y := ⟨_, rfl⟩
              have d1 : 0 ≤ y1 := by rw [← hy1]; unfold cmpN; (repeat' split) <;> omega
              have HY1 : Hid _ := hy1
              have hle : a + b ≤ n := by have := HX.out.le; omega
              clear hy1 HX g1 g2
              go_wp2_with (first | (go_at_call 47; (with_reducible refine (k47 (f i) r oki.out or.out _ HAP.out _).mono ?_); rintro e w' ⟨rfl, dd, oo, rfl⟩) | (go_at_call 86; (with_reducible refine (k86 (f i) r oi2 or1 _ HT1.out _).mono ?_); rintro e w' ⟨rfl, dd, oo, rfl⟩) | (go_at_call 86; (with_reducible refine (k86 r (f i) or2 oi1 _ HT2.out _).mono ?_); rintro e w' ⟨rfl, dd, oo, rfl⟩) | (go_at_call 39; (with_reducible refine (k39 _ _ oi1 or1 y1 HY1.out _).mono ?_); rintro e w' ⟨rfl, dd, oo, rfl⟩) | (at_builtin; refine appD rfl (.tmp 15) (.tmp 17) 25 48 infoQ under25 (by omega) rfl (.slice pb b cb) b fb rfl ((HM.out.chg0 (by (repeat (with_reducible first | exact Chg.refl _ _ | refine Chg.plus ?_ _ _ | refine Chg.alloc ?_ _ | refine Chg.drew ?_)))).ob) 1 (fun _ => (f i)) (Rd.newAt _ (f i) (by simp) rfl) (by omega) ?_; intro p1 c1 w1 hO1 hC1 hat1; have HM1 : Hid (PlR w w1 r (.slice pa a ca) a fa (.slice p1 (b + 1) c1) (b + 1) (snoc b fb (f i))) := PlR.appB (HM.out.chg0 (by (repeat (with_reducible first | exact Chg.refl _ _ | refine Chg.plus ?_ _ _ | refine Chg.alloc ?_ _ | refine Chg.drew ?_)))) hO1.out hC1 hat1.out; clear hO1 hC1 hat1; have hl1 := HM1.out.lt; obtain ⟨db0, db1, db2, db3, db4, db5⟩ := rq_cells HM1.out.cells))
              go_roundw
              case rel => exact ⟨i + 1, a, b + 1, pa, p1, ca, c1, r, fa, snoc b fb (f i), by go_num, rfl, rfl, by omega, HM1.out.chg0 (by (repeat (with_reducible first | exact Chg.refl _ _ | refine Chg.plus ?_ _ _ | refine Chg.alloc ?_ _ | refine Chg.drew ?_))), HI.out⟩
              case measure => simp [intOf]; omega

      · have HAP : Hid (decide ((f i).2 < r.1 ∨ r.2 < (f i).1) = false) := decide_eq_false hap
        have HT1 : Hid True := trivial
        have HT2 : Hid True := trivial
        have HI : Hid (PlsI n f r0 (i + 1) a fa (min (f i).1 r.1, max (f i).2 r.2) b fb) := HX.out.merge HC.out hlt (by omega) (by omega)
        clear HX
        go_wp2_with (first | (go_at_call 47; (with_reducible refine (k47 (f i) r oki.out or.out _ HAP.out _).mono ?_); rintro e w' ⟨rfl, dd, oo, rfl⟩) | (go_at_call 86; (with_reducible refine (k86 (f i) r oi2 or1 _ HT1.out _).mono ?_); rintro e w' ⟨rfl, dd, oo, rfl⟩) | (go_at_call 86; (with_reducible refine (k86 r (f i) or2 oi1 _ HT2.out _).mono ?_); rintro e w' ⟨rfl, dd, oo, rfl⟩))
        refine wp_region_plus_tail 11 (by kernel_rfl) (by kernel_rfl) ?_
        simp only [List.take_succ_cons, List.take_zero, List.drop_succ_cons, List.drop_zero]
        repeat (go_big_quiet_step (first | (go_at_call 50; (with_reducible exact Calls.plus_of (k50 (f i).1 r.1 oi1 or1 _))) | (go_at_call 51; (with_reducible exact Calls.plus_of (k51 (f i).2 r.2 oi2 or2 _)))))
        refine wpQuiet_nil ?_
        intro _ hq
        obtain ⟨⟨dq, oq⟩, rfl⟩ := hq
        go_wp2_with fail
        go_roundw
        case rel => exact ⟨i + 1, a, b, pa, pb, ca, cb, (min (f i).1 r.1, max (f i).2 r.2), fa, fb, by go_num, rfl, rfl, by omega, (HM.out.set _ _).chg0 (by (repeat (with_reducible first | exact Chg.refl _ _ | refine Chg.plus ?_ _ _ | refine Chg.alloc ?_ _ | refine Chg.drew ?_))), HI.out⟩
        case measure => simp [intOf]; omega

    · obtain rfl : i = n := by omega
      have hle : a + b ≤ i := HX.out.le
      go_wp2_with (first | (at_builtin; refine appD rfl (.tmp 57) (.tmp 59) 25 48 infoQ under25 (by omega) rfl (.slice pa a ca) a fa rfl ((HM.out.chg0 (by (repeat (with_reducible first | exact Chg.refl _ _ | refine Chg.plus ?_ _ _ | refine Chg.alloc ?_ _ | refine Chg.drew ?_)))).oa) 1 (fun _ => r) (Rd.newAt _ r (by simp) rfl) (by omega) ?_; intro p1 c1 w1 hO1 hC1 hat1; have HM1 : Hid (PlR w w1 r (.slice p1 (a + 1) c1) (a + 1) (snoc a fa r) (.slice pb b cb) b fb) := PlR.appA (HM.out.chg0 (by (repeat (with_reducible first | exact Chg.refl _ _ | refine Chg.plus ?_ _ _ | refine Chg.alloc ?_ _ | refine Chg.drew ?_)))) hO1.out hC1 hat1.out; clear hO1 hC1 hat1) | (at_builtin; refine appD rfl (.tmp 60) (.tmp 61) 25 48 infoQ under25 (by omega) rfl (.slice p1 (a + 1) c1) (a + 1) (snoc a fa r) rfl ((HM1.out.chg0 (by (repeat (with_reducible first | exact Chg.refl _ _ | refine Chg.plus ?_ _ _ | refine Chg.alloc ?_ _ | refine Chg.drew ?_)))).oa) b fb ((HM1.out.chg0 (by (repeat (with_reducible first | exact Chg.refl _ _ | refine Chg.plus ?_ _ _ | refine Chg.alloc ?_ _ | refine Chg.drew ?_)))).ob.rd) (by omega) ?_; intro p2 c2 w2 hO2 hC2 hat2; have HM2 : Hid (PlR w w2 r (.slice p2 (a + 1 + b) c2) (a + 1 + b) (joinF (a + 1) (snoc a fa r) fb) (.slice pb b cb) b fb) := PlR.appA (HM1.out.chg0 (by (repeat (with_reducible first | exact Chg.refl _ _ | refine Chg.plus ?_ _ _ | refine Chg.alloc ?_ _ | refine Chg.drew ?_)))) hO2.out hC2 hat2.out; clear hO2 hC2 hat2))
      go_ret
      obtain ⟨d1, d2, d3⟩ := HX.out.done
      exact ⟨_, _, _, rfl, HM2.out.chg, HM2.out.oa, fun k e => by have := HM2.out.ga k e; omega, d1, d2, d3⟩
end Go.Proofs.YtmoabfpdlbngeaaGreatDoor
end
