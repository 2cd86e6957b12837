/-
  Part of the proofs on the laws of pub-addresssets: joined texts (R3, R4).
-/
import Derived.Test.YtmoabfpdlbngeaaGreatDoorVR1
section
namespace Go.Proofs.YtmoabfpdlbngeaaGreatDoor
open Go.RowKit
set_option maxHeartbeats 400000
set_option linter.unusedVariables false
set_option linter.unusedSimpArgs false
@[go_sem] theorem fld40z (a b c d e g : Value) (w : World) : (Instr.field 40 (.agg #[a, b, c, d, e, g]) 0).run Tryz.prog w = .ok (.agg #[a, b, c]) w := by
  simp [Instr.field, go_sem, part, asAgg]
theorem neq38 (a b : Nat) (oa : okK a) (ob : okK b) (x : Bool) (hx : decide (a = b) = x) (w : World) : (binOp .neq 38 (.agg #[.bool (sK a), .int .u64 (hK a), .int .u64 (mK a)]) (.agg #[.bool (sK b), .int .u64 (hK b), .int .u64 (mK b)])).run Tryz.prog w = .ok (.bool (!x)) w := by
  rw [← hx, ← eqS3 a b oa ob]
  by_cases h1 : sK a = sK b <;> by_cases h2 : hK a = hK b <;> by_cases h3 : mK a = mK b <;> simp [go_sem, h1, h2, h3]
/-- What Prefixes hands back. -/
def PpP (w : World) (m : Nat) (h : Nat → Nat × Nat) (e : Ending) (w' : World) : Prop := ∃ p M c F, e = .returned (.slice p M c) ∧ Hid (Chg (fun _ => False) w w' ∧ Rd layI w' (.slice p M c) M F ∧ ChL h m M F ∧ M ≤ 257 * m)
/-- The list so far. -/
structure PmR (w wr : World) (v : Value) (N : Nat) (F : Nat → Nat × Nat) : Prop where
  chg : Chg (fun _ => False) w wr
  own : OwnDV layI 47 wr v N F
  ge : ∀ k, v.ownBlock = some k → w.heap.size ≤ k
theorem PmR.chg0 {w wr W : World} {v : Value} {N : Nat} {F : Nat → Nat × Nat} (H : PmR w wr v N F) (C : Chg (fun _ => False) wr W) : PmR w W v N F :=
  ⟨H.chg.trans C, H.own.chg C (fun _ _ => id), H.ge⟩
theorem PmR.congr {w wr : World} {v : Value} {N : Nat} {F F' : Nat → Nat × Nat} (H : PmR w wr v N F) (e : ∀ j, j < N → F j = F' j) : PmR w wr v N F' :=
  ⟨H.chg, H.own.congr e, H.ge⟩
theorem PmR.app {w W w2 : World} {v v' : Value} {N N' : Nat} {F F' : Nat → Nat × Nat} (H : PmR w W v N F) (hO : OwnDV layI 47 w2 v' N' F') (hC : Chg (AtV v) W w2) (hat : v'.ownBlock = v.ownBlock ∨ v'.ownBlock = some W.heap.size) : PmR w w2 v' N' F' := by
  refine ⟨Chg.app H.chg hC H.ge, hO, fun k e => ?_⟩
  rcases hat with q | q
  · exact H.ge k (by rw [← q]; exact e)
  · rw [q] at e
    have := H.chg.size
    simp only [Option.some.injEq] at e
    omega
theorem PmR.set {w W : World} {v : Value} {N : Nat} {F : Nat → Nat × Nat} (H : PmR w W v N F) (B j : Nat) (x : Value) (h1 : w.heap.size ≤ B) (h2 : ∀ k, v.ownBlock = some k → k ≠ B) : PmR w (W.setCell ⟨B, j, none⟩ x) v N F :=
  ⟨H.chg.setCell _ _ (fun q => absurd h1 (Nat.not_le.2 q)), H.own.chg ((Chg.refl (fun k => k = B) W).setCell ⟨B, j, none⟩ x (fun _ => rfl)) (fun k e q => h2 k e q), H.ge⟩
theorem k40e (a : Nat) (o : okK a) (w : World) : Calls Tryz.prog 40 #[.agg #[.bool (sK a), .int .u64 (hK a), .int .u64 (mK a)]] w fun e w' => ∃ (s : Bool) (h l : Int) (t : Bool), e = .returned (.tuple #[.agg #[.bool s, .int .u64 h, .int .u64 l], .bool t]) ∧ Plus w w' := by
  by_cases o' : okK (a + 1)
  · exact (k40 a o o' w).mono fun e w' q => ⟨_, _, _, _, q.1, q.2⟩
  · exact (k40z a o o' w).mono fun e w' q => ⟨_, _, _, _, q.1, q.2⟩
theorem set3 (W : World) (g : Nat) (x0 x1 x2 x3 x4 x5 v0 v1 v2 : Value) (h : W.heap[g]? = some (.cells #[x0, x1, x2, x3, x4, x5] 40 (0, 0))) :
    (((W.setCell ⟨g, 0, none⟩ v0).setCell ⟨g, 1, none⟩ v1).setCell ⟨g, 2, none⟩ v2).heap[g]? = some (.cells #[v0, v1, v2, x3, x4, x5] 40 (0, 0)) := by
  have h3 := set1 _ g _ 2 v2 (set1 _ g _ 1 v1 (set1 W g _ 0 v0 h))
  rw [h3]
  simp
theorem ne_of_hat {v v' : Value} {N B : Nat} (hat : v'.ownBlock = v.ownBlock ∨ v'.ownBlock = some N) (h : ∀ k, v.ownBlock = some k → k ≠ B) (hB : B < N) : ∀ k, v'.ownBlock = some k → k ≠ B := fun k e => by
  rcases hat with q | q
  · exact h k (by rw [← q]; exact e)
  · rw [q] at e
    simp only [Option.some.injEq] at e
    omega
theorem heap_chg {F : Nat → Prop} {w w' : World} {B : Nat} {ob : Obj} (C : Chg F w w') (h : w.heap[B]? = some ob) (hF : ¬ F B) : w'.heap[B]? = some ob := (C.block B (Array.getElem?_eq_some_iff.1 h).1 hF).trans h
/-- The middle loop, plain: g told so far, what is left begins at c. -/
structure PgI (a b m : Nat) (g : Nat → Nat × Nat) (again : Bool) (c : Nat) : Prop where
  chp : ChP (vK a) (vK b) m g
  go : again = true → okR (c, b) ∧ sK c = sK a ∧ vK c = curP (vK a) m g
  done : again = false → 0 < m ∧ curP (vK a) m g = vK b + 1
theorem PgI.start (a b : Nat) (o : okR (a, b)) : PgI a b 0 (fun _ => (0, 0)) true a := ⟨.nil, fun _ => ⟨o, rfl, rfl⟩, fun q => by cases q⟩
theorem PgI.le {a b m : Nat} {g : Nat → Nat × Nat} {again : Bool} {c : Nat} (H : PgI a b m g again c) (o : okR (a, b)) : m ≤ 257 :=
  H.chp.le257 (vK_range (a, b) o).1 (vK_range (a, b) o).2.1
theorem PgI.step {a b m : Nat} {g : Nat → Nat × Nat} {c : Nat} (H : PgI a b m g true c) (n : Nat) (hn : n ≤ lenK c) (hg : goodB c b n) (hm : ∀ n', n' < n → ¬ goodB c b n') (again : Bool) (ha : decide ((pfR c n).2 = b) = !again) : PgI a b (m + 1) (snP m g (vK c, lenK c - n)) again ((pfR c n).2 + 1) := by
  obtain ⟨o, s, e⟩ := H.go rfl
  have gi := (good_iff c b n o hn).1 hg
  have gt := good_top c b n o hn hm
  rw [e] at gi gt
  refine ⟨by rw [e]; exact H.chp.snoc gi.1 gi.2 gt, fun q => ?_, fun q => ?_⟩
  · subst q
    have hne : (pfR c n).2 ≠ b := of_decide_eq_false ha
    obtain ⟨z1, _, z2, z3⟩ := good_next c b n o hn hg hne
    exact ⟨z1, z3.trans s, by rw [z2, curP_snP]⟩
  · subst q
    have he : (pfR c n).2 = b := of_decide_eq_true ha
    exact ⟨by omega, by rw [curP_snP]; exact good_end c b n o hg he⟩
theorem PgI.full {a b m : Nat} {g : Nat → Nat × Nat} {c : Nat} (H : PgI a b m g false c) : ChV (vK a) (vK b) m g := H.chp.full (H.done rfl).1 (H.done rfl).2
theorem snP_pf (a b m c n M : Nat) (F g : Nat → Nat × Nat) (o : okR (c, b)) (s : sK c = sK a) (hn : n ≤ lenK c) (j : Nat) (hj : j < M + (m + 1)) : appF (M + m) (appF M F (fun j => pfV (sK a) (g j))) (fun _ => (c, n)) j = appF M F (fun j => pfV (sK a) (snP m g (vK c, lenK c - n) j)) j := by
  unfold appF snP
  by_cases h1 : j < M
  · rw [if_pos (by omega), if_pos h1, if_pos h1]
  · by_cases h2 : j < M + m
    · rw [if_pos h2, if_neg h1, if_neg h1]
      simp only [if_pos (show j - M < m by omega)]
    · rw [if_neg h2, if_neg h1]
      simp only [if_neg (show ¬ j - M < m by omega)]
      rw [← s, pfV_back c n o.a hn]
def lenV : Value → Nat | .slice _ n _ => n | _ => 0
def lftP (B : Nat) (w : World) : Nat := 200 - (intOf ((w.cell? ⟨B, 3, none⟩).getD (.bool false))).toNat
theorem lftP_eq {w : World} {B : Nat} {n : Nat} (h : w.cell? ⟨B, 3, none⟩ = some (.int .i64 ((n : Nat) : Int))) : lftP B w = 200 - n := by
  unfold lftP; rw [h]; simp [intOf]
theorem pi_at {w : World} {B : Nat} {c n : Nat} (h : w.heap[B]? = some (.cells #[.bool (sK c), .int .u64 (hK c), .int .u64 (mK c), .int .i64 ((n : Nat) : Int)] 47 (0, 0))) : w.rangeAt B 0 (piL (c, n)) := rangeAt_of _ _ _ 47 h 0 _ (fun j hj => by rw [Nat.zero_add, ← Array.getElem?_toList]; rfl)
theorem bx_at {w : World} {B : Nat} {r : Nat × Nat} (h : w.heap[B]? = some (.cells #[.bool (sK r.1), .int .u64 (hK r.1), .int .u64 (mK r.1), .bool (sK r.2), .int .u64 (hK r.2), .int .u64 (mK r.2)] 40 (0, 0))) : w.rangeAt B 0 (rqL r) := rangeAt_of _ _ _ 40 h 0 _ (fun j hj => by rw [Nat.zero_add, ← Array.getElem?_toList]; rfl)
theorem fr_at {w : World} {B E : Nat} {cs : Array Value} (h : w.heap[B]? = some (.cells cs E (0, 0))) (j : Nat) : w.frozen? ⟨B, j, none⟩ = false := by
  unfold World.frozen?; simp [h]
theorem set47 (W : World) (g : Nat) (cs : Array Value) (j : Nat) (v : Value) (hw : W.heap[g]? = some (.cells cs 47 (0, 0))) : (W.setCell ⟨g, j, none⟩ v).heap[g]? = some (.cells (cs.setIfInBounds j v) 47 (0, 0)) := by
  rw [setCell_eq_setRow W g j _ 47 (0, 0) v hw]
  exact setRow_heap W g _ _ 47 (0, 0) hw
theorem k19x (k n : Nat) (o : okK k) (hn : n ≤ lenK k) (x y : Nat) (hA : pfR k n = (x, y)) (w : World) : Calls Tryz.prog 19 #[.agg #[.bool (sK k), .int .u64 (hK k), .int .u64 (mK k), .int .i64 ((n : Nat) : Int)]] w fun e w' => e = .returned (.agg #[.bool (sK x), .int .u64 (hK x), .int .u64 (mK x), .bool (sK y), .int .u64 (hK y), .int .u64 (mK y)]) ∧ Plus w w' := by
  have hq := k19 k n o hn w
  rw [hA] at hq
  exact hq
theorem lenK_le (c : Nat) : lenK c ≤ 128 := by unfold lenK; split <;> omega
set_option maxRecDepth 100000 in
set_option maxHeartbeats 4000000 in
theorem c13 (v0 : Value) (m : Nat) (h : Nat → Nat × Nat) (hm : m ≤ 20000000) (w : World) (H : Rd layQ w v0 m h) (ok : ∀ i, i < m → okR (h i)) : Calls Tryz.prog 13 #[v0] w (PpP w m h) := by
  obtain ⟨p, c, rfl, hMc, hr⟩ := H
  have HR : Hid _ := hr
  have HO : Hid _ := ok
  clear hr ok
  go_enter Tryz.func13, Tryz.ntmps13

  go_wp2_with fail
  go_loopw [3, 11] (fun t3 t11 wr => ∃ (i : Nat) (p0 : Option Addr) (c0 : Nat) (M : Nat) (F : Nat → Nat × Nat), t11 = .int .i64 i ∧ t3 = .slice p0 M c0 ∧ i ≤ m ∧ Hid (PmR w wr (.slice p0 M c0) M F ∧ ChL h i M F ∧ M ≤ 257 * i))
    (fun _ t11 _ => m - (intOf t11).toNat)
  case atStart => exact ⟨0, none, 0, 0, fun _ => (0, 0), rfl, rfl, Nat.zero_le _, ⟨Chg.refl _ _, .nil _, fun k e => by simp [Value.ownBlock] at e⟩, .nil _, by omega⟩
  case round =>
    obtain ⟨i, p0, c0, M, F, rfl, rfl, hi, X⟩ := hrel
    obtain ⟨W0, rfl⟩ : ∃ x, x = wr := ⟨_, rfl⟩
    by_cases hlt : i < m
    · obtain ⟨G, o, rfl, hrow⟩ := HR.out (by omega)
      have ra : W0.rangeAt G (o + i * 6) (rqL (h i)) := rangeAt_chg X.out.1.chg (hrow i hlt) id
      obtain ⟨ca0, ca1, ca2, ca3, ca4, ca5⟩ := rq_cells ra
      have hG : G < W0.heap.size := World.block_lt_of_cell? _ _ ca0
      obtain ⟨a, b, hab⟩ : ∃ a b, h i = (a, b) := ⟨_, _, rfl⟩
      have OK : Hid (okR (a, b)) := hab ▸ HO.out i hlt
      simp only [hab] at ca0 ca1 ca2 ca3 ca4 ca5
      have HAB : Hid _ := hab
      have hw0 := X.out.1.chg.size
      have hown : ∀ k, (Value.slice p0 M c0).ownBlock = some k → k < W0.heap.size := fun k e => X.out.1.own.lt e
      have HOW : Hid _ := hown
      have hM : M ≤ 257 * i := X.out.2.2
      clear hrow ra hab hown
      go_wp2_with fail
      go_loopw [3, 6] (fun t3 t6 wm => ∃ (mm : Nat) (p1 : Option Addr) (c1 : Nat) (g : Nat → Nat × Nat) (again : Bool) (c : Nat), t3 = .slice p1 (M + mm) c1 ∧ t6 = .bool again ∧ Hid (PmR w wm (.slice p1 (M + mm) c1) (M + mm) (appF M F (fun j => pfV (sK a) (g j))) ∧ PgI a b mm g again c ∧ (∀ k, (Value.slice p1 (M + mm) c1).ownBlock = some k → k ≠ W0.heap.size) ∧ (again = true → wm.heap[W0.heap.size]? = some (.cells #[.bool (sK c), .int .u64 (hK c), .int .u64 (mK c), .bool (sK b), .int .u64 (hK b), .int .u64 (mK b)] 40 (0, 0)))))
        (fun t3 t6 _ => M + 258 - lenV t3)
      case atStart =>
        refine ⟨0, p0, c0, fun _ => (0, 0), true, a, rfl, rfl, (X.out.1.congr (fun j hj => by unfold appF; rw [if_pos (by omega)])).chg0 (by (repeat (with_reducible first | exact Chg.refl _ _ | refine Chg.plus ?_ _ _ | refine Chg.alloc ?_ _ | refine Chg.drew ?_))), .start a b OK.out, fun k e => by have := HOW.out k e; omega, fun _ => ?_⟩
        exact heap_alloc_new W0 _
      case round =>
        obtain ⟨mm, p1, c1, g, again, c, rfl, rfl, Y⟩ := hrel
        obtain ⟨wm, rfl⟩ : ∃ x, x = wr := ⟨_, rfl⟩
        have hmm : mm ≤ 257 := Y.out.2.1.le OK.out
        cases again
        · go_wp2_with fail
          go_roundw
          case rel =>
            have hC := Y.out.2.1.full
            refine ⟨i + 1, p1, c1, M + mm, appF M F (fun j => pfV (sK a) (g j)), by go_num, rfl, by omega, Y.out.1.chg0 (by (repeat (with_reducible first | exact Chg.refl _ _ | refine Chg.plus ?_ _ _ | refine Chg.alloc ?_ _ | refine Chg.drew ?_))), ?_, by omega⟩
            have hs := ChL.snoc X.out.2.1 (m := mm) (g := g) (by rw [HAB.out]; exact hC)
            rw [HAB.out] at hs
            exact hs
          case measure => simp [intOf]; omega
        · obtain ⟨o', s', e'⟩ := Y.out.2.1.go rfl
          have oc : Hid (okK c) := o'.a
          have ob : Hid (okK b) := o'.b
          have OCB : Hid (okR (c, b)) := o'
          have HSA : Hid (sK c = sK a) := s'
          have HB := Y.out.2.2.2 rfl
          have HBX : Hid _ := HB
          have hBl : W0.heap.size < wm.heap.size := (Array.getElem?_eq_some_iff.1 HB).1
          obtain ⟨cb0, cb1, cb2, cb3, cb4, cb5⟩ := rq_cells (bx_at (r := (c, b)) HB)
          simp only [] at cb0 cb1 cb2 cb3 cb4 cb5
          clear o' s' e' HB
          go_wp2_with fail
          go_loopw [19] (fun t19 wi => ∃ n : Nat, n ≤ lenK c ∧ Hid (Chg (fun _ => False) wm wi ∧ wi.heap[wm.heap.size]? = some (.cells #[.bool (sK c), .int .u64 (hK c), .int .u64 (mK c), .int .i64 ((n : Nat) : Int)] 47 (0, 0)) ∧ ∀ n', n' < n → ¬ goodB c b n'))
            (fun t19 wi => lftP wm.heap.size wi)
          case atStart => exact ⟨0, Nat.zero_le _, by (repeat (with_reducible first | exact Chg.refl _ _ | refine Chg.plus ?_ _ _ | refine Chg.alloc ?_ _ | refine Chg.drew ?_)), heap_alloc_new wm _, fun n' q => by omega⟩
          case round =>
            obtain ⟨n, hn', Z⟩ := hrel
            obtain ⟨wi, rfl⟩ : ∃ x, x = wr := ⟨_, rfl⟩
            have hn : Hid (n ≤ lenK c) := hn'
            have hn1 : n ≤ 128 := Nat.le_trans hn' (lenK_le c)
            clear hn' cb0 cb1 cb2 cb3 cb4 cb5
            have hbx := (Z.out.1.block W0.heap.size hBl id).trans HBX.out
            have hpx := Z.out.2.1
            obtain ⟨cp0, cp1, cp2, cp3⟩ := pi_cells4 (pi_at hpx)
            obtain ⟨cb0, cb1, cb2, cb3, cb4, cb5⟩ := rq_cells (bx_at (r := (c, b)) hbx)
            simp only [] at cp0 cp1 cp2 cp3 cb0 cb1 cb2 cb3 cb4 cb5
            have hP : wm.heap.size < wi.heap.size := (Array.getElem?_eq_some_iff.1 hpx).1
            have hB : W0.heap.size < wi.heap.size := (Array.getElem?_eq_some_iff.1 hbx).1
            obtain ⟨x, y, hxy⟩ : ∃ x y, pfR c n = (x, y) := ⟨_, _, rfl⟩
            have hok := pfR_ok c n oc.out hn.out
            rw [hxy] at hok
            have ox : Hid (okK x) := hok.a
            have oy : Hid (okK y) := hok.b
            have HXY : Hid _ := hxy
            clear hok
            have HPi : Hid (PmR w wi (.slice p1 (M + mm) c1) (M + mm) (appF M F (fun j => pfV (sK a) (g j)))) := Y.out.1.chg0 Z.out.1
            have HLT : Hid (∀ k, (Value.slice p1 (M + mm) c1).ownBlock = some k → k ≠ W0.heap.size ∧ k ≠ wm.heap.size) := fun k e => ⟨Y.out.2.2.1 k e, by have := Y.out.1.own.lt e; omega⟩
            have HPX : Hid _ := hpx
            have fp3 := fr_at hpx 3
            have hsz0 : M + mm + 1 ≤ 10000000000 := by omega
            have HBI : Hid _ := hbx
            clear hpx hbx
            by_cases q1 : x = c
            · by_cases q2 : y ≤ b
              · have hg : Hid (goodB c b n) := ⟨by rw [hxy]; exact q1, by rw [hxy]; exact q2⟩
                have hne := fun w => neq38 x c ox.out oc.out true (decide_eq_true q1) w
                obtain ⟨z, hz⟩ : ∃ z, cmpN y b = z := ⟨_, rfl⟩
                have hz0 : z ≤ 0 := by rw [← hz]; unfold cmpN; (repeat' split) <;> omega
                have HY : Hid _ := hz
                clear hz q1 q2 hxy
                go_upto_region 8 with fail
                refine wp_region_plus (by kernel_rfl) (by kernel_rfl) ?_
                repeat (go_big_quiet_step (first | (go_at_call 19; (with_reducible exact Calls.plus_of (k19x c n oc.out hn.out x y HXY.out _))) | (go_at_call 39; (with_reducible exact Calls.plus_of (k39 _ _ oy.out ob.out z HY.out _)))))
                refine wpQuiet_nil ?_
                intro _ hq
                obtain ⟨⟨dq, oq⟩, rfl⟩ := hq
                have hst := fun (again : Bool) (ha : decide ((pfR c n).2 = b) = !again) => Y.out.2.1.step n hn.out hg.out Z.out.2.2 again ha
                rw [HXY.out] at hst
                have hlow : w.heap.size ≤ W0.heap.size := hw0
                by_cases q3 : y = b
                · have hne2 := fun w => neq38 y b oy.out ob.out true (decide_eq_true q3) w
                  have HST : Hid (PgI a b (mm + 1) (snP mm g (vK c, lenK c - n)) false (y + 1)) := hst false (decide_eq_true q3)
                  have HQ3 : Hid _ := q3
                  clear hst q3
                  go_wp2_with (first | (at_builtin; go_loud (refine appDL rfl (.tmp 38) (.tmp 40) 26 32 infoI under26 (by omega) rfl (.slice p1 (M + mm) c1) (M + mm) (appF M F (fun j => pfV (sK a) (g j))) rfl (OwnDV.chg HPi.out.own (F := fun _ => False) (by (repeat (with_reducible first | exact Chg.refl _ _ | refine Chg.plus ?_ _ _ | refine Chg.alloc ?_ _ | refine Chg.drew ?_))) (fun _ _ => id)) 1 (fun _ => (c, n)) (Rd.newPi (c, n) (by simp)) (by omega) ?_); intro p3 c3 w3 hO3 hC3 hat3; have HW3 : Hid (Chg (AtV (.slice p1 (M + mm) c1)) wi w3) := Chg.trans (by (repeat (with_reducible first | exact Chg.refl _ _ | refine Chg.plus ?_ _ _ | refine Chg.alloc ?_ _ | refine Chg.drew ?_))) hC3; have HM3 : Hid (PmR w w3 (.slice p3 (M + mm + 1) c3) (M + mm + 1) (appF (M + mm) (appF M F (fun j => pfV (sK a) (g j))) (fun _ => (c, n)))) := PmR.app (HPi.out.chg0 (by (repeat (with_reducible first | exact Chg.refl _ _ | refine Chg.plus ?_ _ _ | refine Chg.alloc ?_ _ | refine Chg.drew ?_)))) hO3.out hC3 hat3.out; have hb3 := heap_chg HW3.out HBI.out (fun q => (HLT.out _ q).1 rfl); have HB3 : Hid _ := hb3; have HL3 : Hid (∀ k, (Value.slice p3 (M + mm + 1) c3).ownBlock = some k → k ≠ W0.heap.size) := ne_of_hat hat3.out (fun k e => (HLT.out k e).1) (by simp; omega); obtain ⟨dp0, dp1, dp2, dp3⟩ := pi_cells4 (pi_at (heap_chg HW3.out HPX.out (fun q => (HLT.out _ q).2 rfl))); obtain ⟨db0, db1, db2, db3, db4, db5⟩ := rq_cells (bx_at (r := (c, b)) hb3); simp only [] at dp0 dp1 dp2 dp3 db0 db1 db2 db3 db4 db5; have hP3 : wm.heap.size < w3.heap.size := Nat.lt_of_lt_of_le hP HW3.out.size; have hB3 : W0.heap.size < w3.heap.size := Nat.lt_of_lt_of_le hB HW3.out.size; have fb0 := fr_at hb3 0; have fb1 := fr_at hb3 1; have fb2 := fr_at hb3 2; clear hO3 hC3 hat3 hb3 cp0 cp1 cp2 cp3 cb0 cb1 cb2 cb3 cb4 cb5) | (go_at_call 19; (with_reducible refine (k19x c n oc.out hn.out x y HXY.out _).mono ?_); rintro e w' ⟨rfl, dd, oo, rfl⟩) | (go_at_call 40; (with_reducible refine (k40e y oy.out _).mono ?_); rintro e w' ⟨s4, h4, l4, t4, rfl, dd, oo, rfl⟩))
                  go_roundw
                  case rel =>
                    refine ⟨mm + 1, p3, c3, snP mm g (vK c, lenK c - n), false, y + 1, rfl, rfl, ?_, HST.out, HL3.out, fun q => ?_⟩
                    · exact PmR.chg0 ((((HM3.out.congr (fun j hj => snP_pf a b mm c n M F g OCB.out HSA.out hn.out j (by omega))).set W0.heap.size 0 _ hlow HL3.out).set W0.heap.size 1 _ hlow HL3.out).set W0.heap.size 2 _ hlow HL3.out) (by (repeat (with_reducible first | exact Chg.refl _ _ | refine Chg.plus ?_ _ _ | refine Chg.alloc ?_ _ | refine Chg.drew ?_)))
                    · cases q
                  case measure => simp [lenV]; omega
                · have hne2 := fun w => neq38 y b oy.out ob.out false (decide_eq_false q3) w
                  have HST : Hid (PgI a b (mm + 1) (snP mm g (vK c, lenK c - n)) true (y + 1)) := hst true (decide_eq_false q3)
                  have oy1 : Hid (okK (y + 1)) := (HST.out.go rfl).1.a
                  clear hst q3
                  go_wp2_with (first | (at_builtin; go_loud (refine appDL rfl (.tmp 38) (.tmp 40) 26 32 infoI under26 (by omega) rfl (.slice p1 (M + mm) c1) (M + mm) (appF M F (fun j => pfV (sK a) (g j))) rfl (OwnDV.chg HPi.out.own (F := fun _ => False) (by (repeat (with_reducible first | exact Chg.refl _ _ | refine Chg.plus ?_ _ _ | refine Chg.alloc ?_ _ | refine Chg.drew ?_))) (fun _ _ => id)) 1 (fun _ => (c, n)) (Rd.newPi (c, n) (by simp)) (by omega) ?_); intro p3 c3 w3 hO3 hC3 hat3; have HW3 : Hid (Chg (AtV (.slice p1 (M + mm) c1)) wi w3) := Chg.trans (by (repeat (with_reducible first | exact Chg.refl _ _ | refine Chg.plus ?_ _ _ | refine Chg.alloc ?_ _ | refine Chg.drew ?_))) hC3; have HM3 : Hid (PmR w w3 (.slice p3 (M + mm + 1) c3) (M + mm + 1) (appF (M + mm) (appF M F (fun j => pfV (sK a) (g j))) (fun _ => (c, n)))) := PmR.app (HPi.out.chg0 (by (repeat (with_reducible first | exact Chg.refl _ _ | refine Chg.plus ?_ _ _ | refine Chg.alloc ?_ _ | refine Chg.drew ?_)))) hO3.out hC3 hat3.out; have hb3 := heap_chg HW3.out HBI.out (fun q => (HLT.out _ q).1 rfl); have HB3 : Hid _ := hb3; have HL3 : Hid (∀ k, (Value.slice p3 (M + mm + 1) c3).ownBlock = some k → k ≠ W0.heap.size) := ne_of_hat hat3.out (fun k e => (HLT.out k e).1) (by simp; omega); obtain ⟨dp0, dp1, dp2, dp3⟩ := pi_cells4 (pi_at (heap_chg HW3.out HPX.out (fun q => (HLT.out _ q).2 rfl))); obtain ⟨db0, db1, db2, db3, db4, db5⟩ := rq_cells (bx_at (r := (c, b)) hb3); simp only [] at dp0 dp1 dp2 dp3 db0 db1 db2 db3 db4 db5; have hP3 : wm.heap.size < w3.heap.size := Nat.lt_of_lt_of_le hP HW3.out.size; have hB3 : W0.heap.size < w3.heap.size := Nat.lt_of_lt_of_le hB HW3.out.size; have fb0 := fr_at hb3 0; have fb1 := fr_at hb3 1; have fb2 := fr_at hb3 2; clear hO3 hC3 hat3 hb3 cp0 cp1 cp2 cp3 cb0 cb1 cb2 cb3 cb4 cb5) | (go_at_call 19; (with_reducible refine (k19x c n oc.out hn.out x y HXY.out _).mono ?_); rintro e w' ⟨rfl, dd, oo, rfl⟩) | (go_at_call 40; (with_reducible refine (k40 y oy.out oy1.out _).mono ?_); rintro e w' ⟨rfl, dd, oo, rfl⟩))
                  go_roundw
                  case rel =>
                    refine ⟨mm + 1, p3, c3, snP mm g (vK c, lenK c - n), true, y + 1, rfl, rfl, ?_, HST.out, HL3.out, fun q => ?_⟩
                    · exact PmR.chg0 ((((HM3.out.congr (fun j hj => snP_pf a b mm c n M F g OCB.out HSA.out hn.out j (by omega))).set W0.heap.size 0 _ hlow HL3.out).set W0.heap.size 1 _ hlow HL3.out).set W0.heap.size 2 _ hlow HL3.out) (by (repeat (with_reducible first | exact Chg.refl _ _ | refine Chg.plus ?_ _ _ | refine Chg.alloc ?_ _ | refine Chg.drew ?_)))
                    · exact heap_chg (F := fun _ => False) (by (repeat (with_reducible first | exact Chg.refl _ _ | refine Chg.plus ?_ _ _ | refine Chg.alloc ?_ _ | refine Chg.drew ?_))) (set3 w3 W0.heap.size _ _ _ _ _ _ _ _ _ HB3.out) id
                  case measure => simp [lenV]; omega
              · have HNG : Hid (¬ goodB c b n) := fun q => q2 (by have := q.2; rwa [hxy] at this)
                have hlt2 : n + 1 ≤ lenK c := by
                  have : n ≠ lenK c := fun q => HNG.out (q ▸ good_len c b OCB.out)
                  have := hn.out
                  omega
                have hne := fun w => neq38 x c ox.out oc.out true (decide_eq_true q1) w
                obtain ⟨z, hz⟩ : ∃ z, cmpN y b = z := ⟨_, rfl⟩
                have hz0 : 0 < z := by rw [← hz]; unfold cmpN; (repeat' split) <;> omega
                have HY : Hid _ := hz
                clear hz q1 q2 hxy
                go_upto_region 8 with fail
                refine wp_region_plus (by kernel_rfl) (by kernel_rfl) ?_
                repeat (go_big_quiet_step (first | (go_at_call 19; (with_reducible exact Calls.plus_of (k19x c n oc.out hn.out x y HXY.out _))) | (go_at_call 39; (with_reducible exact Calls.plus_of (k39 _ _ oy.out ob.out z HY.out _)))))
                refine wpQuiet_nil ?_
                intro _ hq
                obtain ⟨⟨dq, oq⟩, rfl⟩ := hq
                go_wp2_with fail
                go_roundw
                case rel =>
                  refine ⟨n + 1, hlt2, (Z.out.1.setCell ⟨wm.heap.size, 3, none⟩ _ (fun q => absurd q (Nat.lt_irrefl _))).plus _ _, ?_, fun n' q => ?_⟩
                  · rw [heap_chg (F := fun _ => False) ((Chg.refl _ _).plus _ _) (set47 wi wm.heap.size _ 3 (.int .i64 ((n : Int) + 1)) HPX.out) id]
                    simp
                  · by_cases e9 : n' < n
                    · exact Z.out.2.2 n' e9
                    · have : n' = n := by omega
                      subst this
                      exact HNG.out
                case measure =>
                  rw [lftP_eq cp3, lftP_eq (n := n + 1) ?_]
                  · have := lenK_le c; omega
                  · exact (pi_cells4 (pi_at (c := c) (n := n + 1) (by rw [heap_chg (F := fun _ => False) ((Chg.refl _ _).plus _ _) (set47 wi wm.heap.size _ 3 (.int .i64 ((n : Int) + 1)) HPX.out) id]; simp))).2.2.2
            · have HNG : Hid (¬ goodB c b n) := fun q => q1 (by have := q.1; rwa [hxy] at this)
              have hlt2 : n + 1 ≤ lenK c := by
                have : n ≠ lenK c := fun q => HNG.out (q ▸ good_len c b OCB.out)
                have := hn.out
                omega
              have hne := fun w => neq38 x c ox.out oc.out false (decide_eq_false q1) w
              have HY : Hid (cmpN y b = cmpN y b) := rfl
              clear q1 hxy
              go_upto_region 8 with fail
              refine wp_region_plus (by kernel_rfl) (by kernel_rfl) ?_
              repeat (go_big_quiet_step (first | (go_at_call 19; (with_reducible exact Calls.plus_of (k19x c n oc.out hn.out x y HXY.out _))) | (go_at_call 39; (with_reducible exact Calls.plus_of (k39 _ _ oy.out ob.out (cmpN y b) HY.out _)))))
              refine wpQuiet_nil ?_
              intro _ hq
              obtain ⟨⟨dq, oq⟩, rfl⟩ := hq
              go_wp2_with fail
              go_roundw
              case rel =>
                refine ⟨n + 1, hlt2, (Z.out.1.setCell ⟨wm.heap.size, 3, none⟩ _ (fun q => absurd q (Nat.lt_irrefl _))).plus _ _, ?_, fun n' q => ?_⟩
                · rw [heap_chg (F := fun _ => False) ((Chg.refl _ _).plus _ _) (set47 wi wm.heap.size _ 3 (.int .i64 ((n : Int) + 1)) HPX.out) id]
                  simp
                · by_cases e9 : n' < n
                  · exact Z.out.2.2 n' e9
                  · have : n' = n := by omega
                    subst this
                    exact HNG.out
              case measure =>
                rw [lftP_eq cp3, lftP_eq (n := n + 1) ?_]
                · have := lenK_le c; omega
                · exact (pi_cells4 (pi_at (c := c) (n := n + 1) (by rw [heap_chg (F := fun _ => False) ((Chg.refl _ _).plus _ _) (set47 wi wm.heap.size _ 3 (.int .i64 ((n : Int) + 1)) HPX.out) id]; simp))).2.2.2
    · obtain rfl : i = m := by omega
      go_wp2_with fail
      go_ret
      exact ⟨_, _, _, F, rfl, X.out.1.chg, X.out.1.own.rd, X.out.2.1, X.out.2.2⟩
end Go.Proofs.YtmoabfpdlbngeaaGreatDoor
end

section
namespace Go.Proofs.YtmoabfpdlbngeaaGreatDoor
open Go.RowKit
set_option maxHeartbeats 400000
set_option linter.unusedVariables false
set_option linter.unusedSimpArgs false
set_option maxRecDepth 100000 in
set_option maxHeartbeats 4000000 in
/-- FnScriptWhole returns true. -/
theorem c3 (v1 : Value) (n1 : Nat) (f1 : Nat → Nat) (hn1 : n1 ≤ 140737488355328) (w : World) (H1 : Rd layB w v1 n1 f1) (b1 : ∀ i, i < n1 → f1 i < 256) :
    Calls Tryz.prog 3 #[v1] w (TrueP w) := by
  obtain ⟨p1, c1, rfl, q1, q2⟩ := H1
  have R1 : Hid (Rd layB w (.slice p1 n1 c1) n1 f1) := ⟨p1, c1, rfl, q1, q2⟩
  have HB1 : Hid _ := b1
  clear q2 b1
  by_cases g1 : 2147483647 < n1
  · have z1 : decide (2147483647 < (n1 : Int)) = true := decide_eq_true (by omega)
    go_enter Tryz.func3, Tryz.ntmps3

    go_wp2_with fail
    go_ret
    exact ⟨rfl, by (repeat (with_reducible first | exact Chg.refl _ _ | refine Chg.plus ?_ _ _ | refine Chg.alloc ?_ _ | refine Chg.drew ?_))⟩
  · have z1 : decide (2147483647 < (n1 : Int)) = false := decide_eq_false (by omega)
    go_enter Tryz.func3, Tryz.ntmps3

    go_wp2_with fail
    refine (c8 _ n1 f1 (by omega) _ (Rd.chg0 R1.out (by (repeat (with_reducible first | exact Chg.refl _ _ | refine Chg.plus ?_ _ _ | refine Chg.alloc ?_ _ | refine Chg.drew ?_)))) HB1.out).mono ?_
    rintro e w1 ⟨ps, ns, cs, gs, rfl, Z⟩
    have HC1 : Hid (Chg (fun _ => False) w w1) := Chg.trans (by (repeat (with_reducible first | exact Chg.refl _ _ | refine Chg.plus ?_ _ _ | refine Chg.alloc ?_ _ | refine Chg.drew ?_))) Z.out.1
    have HS : Hid (Rd layS w1 (.slice ps ns cs) ns gs) := Z.out.2.1
    have hns : ns ≤ 40 := Z.out.2.2.1
    have HGS : Hid (∀ i, i < ns → okStep (gs i)) := Z.out.2.2.2
    clear Z
    go_wp2_with fail
    refine (c9 _ ns gs Gro (lim40 _ hns) (by omega) HGS.out _ (Rd.chg0 HS.out (by (repeat (with_reducible first | exact Chg.refl _ _ | refine Chg.plus ?_ _ _ | refine Chg.alloc ?_ _ | refine Chg.drew ?_))))).mono ?_
    rintro e w2 ⟨pl, m, cl, h, pf, M, cf, F, rfl, Z⟩
    have HC2 : Hid (Chg (fun _ => False) w1 w2) := Chg.trans (by (repeat (with_reducible first | exact Chg.refl _ _ | refine Chg.plus ?_ _ _ | refine Chg.alloc ?_ _ | refine Chg.drew ?_))) Z.out.1
    have HL : Hid (Rd layQ w2 (.slice pl m cl) m h) := Z.out.2.1
    have HCL : Hid (CanonR m h) := Z.out.2.2.1
    have HML : Hid (∀ k, MemR m h k ↔ (runS gs ns).1 k) := Z.out.2.2.2.1
    have HF : Hid (Rd layI w2 (.slice pf M cf) M F) := Z.out.2.2.2.2.1
    have HCh : Hid (ChL h m M F) := Z.out.2.2.2.2.2.1
    have hm : m ≤ 20000000 := Z.out.2.2.2.2.2.2.1
    have hM : M ≤ 257 * m := Z.out.2.2.2.2.2.2.2
    clear Z
    go_wp2_with fail
    refine (c10 _ ns gs Gro (lim40 _ hns) (by omega) HGS.out _ (Rd.chg0 HS.out (HC2.out.trans (by (repeat (with_reducible first | exact Chg.refl _ _ | refine Chg.plus ?_ _ _ | refine Chg.alloc ?_ _ | refine Chg.drew ?_)))))).mono ?_
    rintro e w3 ⟨pl2, pk2, m2, K2, cl2, ck2, h2, hk2, rfl, Z⟩
    have HC3 : Hid (Chg (fun _ => False) w2 w3) := Chg.trans (by (repeat (with_reducible first | exact Chg.refl _ _ | refine Chg.plus ?_ _ _ | refine Chg.alloc ?_ _ | refine Chg.drew ?_))) Z.out.1.chg
    have HL2 : Hid (Rd layQ w3 (.slice pl2 m2 cl2) m2 h2) := Z.out.1.rl
    have HCL2 : Hid (CanonR m2 h2) := Z.out.1.cl
    have HML2 : Hid (∀ k, MemR m2 h2 k ↔ (runS gs ns).1 k) := Z.out.1.ml
    have hm2 : m2 ≤ 15000000 := Z.out.2.1
    have HEQ : Hid (m = m2 ∧ ∀ i, i < m → h i = h2 i) := (canon_iff HCL.out HCL2.out HML.out HML2.out).2 (fun k => Iff.rfl)
    clear Z
    go_wp2_with fail
    refine (c11 _ _ m m2 h h2 (by omega) (by omega) _ (Rd.chg0 HL.out (HC3.out.trans (by (repeat (with_reducible first | exact Chg.refl _ _ | refine Chg.plus ?_ _ _ | refine Chg.alloc ?_ _ | refine Chg.drew ?_))))) (Rd.chg0 HL2.out (by (repeat (with_reducible first | exact Chg.refl _ _ | refine Chg.plus ?_ _ _ | refine Chg.alloc ?_ _ | refine Chg.drew ?_)))) (fun j hj => HCL.out.ok j hj) (fun j hj => HCL2.out.ok j hj)).mono ?_
    rintro e w4 ⟨b2, rfl, Z⟩
    have HC4 : Hid (Chg (fun _ => False) w3 w4) := Chg.trans (by (repeat (with_reducible first | exact Chg.refl _ _ | refine Chg.plus ?_ _ _ | refine Chg.alloc ?_ _ | refine Chg.drew ?_))) Z.out.1
    have hb2 : b2 = true := Z.out.2.2 HEQ.out
    subst hb2
    clear Z
    go_wp2_with fail
    refine (c13 _ m2 h2 (by omega) _ (Rd.chg0 HL2.out (HC4.out.trans (by (repeat (with_reducible first | exact Chg.refl _ _ | refine Chg.plus ?_ _ _ | refine Chg.alloc ?_ _ | refine Chg.drew ?_))))) (fun j hj => HCL2.out.ok j hj)).mono ?_
    rintro e w5 ⟨pf2, M2, cf2, F2, rfl, Z⟩
    have HC5 : Hid (Chg (fun _ => False) w4 w5) := Chg.trans (by (repeat (with_reducible first | exact Chg.refl _ _ | refine Chg.plus ?_ _ _ | refine Chg.alloc ?_ _ | refine Chg.drew ?_))) Z.out.1
    have HF2 : Hid (Rd layI w5 (.slice pf2 M2 cf2) M2 F2) := Z.out.2.1
    have HEF : Hid (M = M2 ∧ ∀ j, j < M → F j = F2 j) := by
      obtain ⟨e1, e2⟩ := HEQ.out
      have C2 := Z.out.2.2.1
      rw [← e1] at C2
      exact (HCh.out.congr e2).uniq C2
    clear Z
    obtain ⟨e1, e2⟩ := HEF.out
    subst e1
    have HE2 : Hid _ := e2
    clear e2
    go_wp2_with fail
    refine (c12 _ _ M F F2 (by omega) _ (Rd.chg0 HF.out (HC3.out.trans (HC4.out.trans (HC5.out.trans (by (repeat (with_reducible first | exact Chg.refl _ _ | refine Chg.plus ?_ _ _ | refine Chg.alloc ?_ _ | refine Chg.drew ?_))))))) (Rd.chg0 HF2.out (by (repeat (with_reducible first | exact Chg.refl _ _ | refine Chg.plus ?_ _ _ | refine Chg.alloc ?_ _ | refine Chg.drew ?_)))) HE2.out).mono ?_
    rintro e w6 ⟨rfl, Z⟩
    have HC6 : Hid (Chg (fun _ => False) w5 w6) := Chg.trans (by (repeat (with_reducible first | exact Chg.refl _ _ | refine Chg.plus ?_ _ _ | refine Chg.alloc ?_ _ | refine Chg.drew ?_))) Z
    clear Z
    go_wp2_with fail
    refine (c14 _).mono ?_
    rintro e w7 ⟨rfl, Z⟩
    have HC7 : Hid (Chg (fun _ => False) w6 w7) := Chg.trans (by (repeat (with_reducible first | exact Chg.refl _ _ | refine Chg.plus ?_ _ _ | refine Chg.alloc ?_ _ | refine Chg.drew ?_))) Z
    clear Z
    go_wp2_with fail
    go_ret
    exact ⟨rfl, (((HC1.out.trans HC2.out).trans (HC3.out.trans HC4.out)).trans (HC5.out.trans HC6.out)).trans HC7.out⟩
end Go.Proofs.YtmoabfpdlbngeaaGreatDoor
end
