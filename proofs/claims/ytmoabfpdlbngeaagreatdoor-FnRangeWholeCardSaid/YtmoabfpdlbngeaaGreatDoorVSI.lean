/-
  Part of the proofs on the laws of pub-addresssets: joined texts (SI).
-/
import Derived.Test.YtmoabfpdlbngeaaGreatDoorVSH
section
namespace Go.Proofs.YtmoabfpdlbngeaaGreatDoor
open Go.RowKit
set_option maxHeartbeats 400000
set_option linter.unusedVariables false
set_option linter.unusedSimpArgs false
/-- Bytes. -/
def byL (b : Nat) : List Value := [.int .u8 ((b : Nat) : Int)]
def layB : Lay Nat := ⟨byL, 1, fun _ => rfl, fun a u hu => by
  simp only [byL, List.mem_cons, List.not_mem_nil, or_false] at hu
  subst hu; simp [Value.oneCell'], by omega⟩
def kindF (j : Nat) : Nat := [0, 0, 0, 0, 1, 1, 2, 2, 3, 4, 5, 6, 7, 7, 8, 9, 10].getD j 0
theorem kindF_le (j : Nat) : kindF j ≤ 10 := by
  by_cases h : j < 17
  · have : ∀ j : Fin 17, kindF j.1 ≤ 10 := by decide
    exact this ⟨j, h⟩
  · unfold kindF
    rw [List.getD_eq_getElem?_getD, List.getElem?_eq_none (by simp; omega)]; simp
theorem kinds_cell (W : World) (B j : Nat) (hj : j < 17) (hB : B = W.heap.size) : (W.alloc (.cells #[.int .i64 0, .int .i64 0, .int .i64 0, .int .i64 0, .int .i64 1, .int .i64 1, .int .i64 2, .int .i64 2, .int .i64 3, .int .i64 4, .int .i64 5, .int .i64 6, .int .i64 7, .int .i64 7, .int .i64 8, .int .i64 9, .int .i64 10] 3)).cell? ⟨B, j, none⟩ = some (.int .i64 ((kindF j : Nat) : Int)) := by
  subst hB
  rw [cell_of_row _ _ j _ 3 (0, 0) (heap_alloc_new W _)]
  have : ∀ j : Fin 17, (#[Value.int .i64 0, Value.int .i64 0, Value.int .i64 0, Value.int .i64 0, Value.int .i64 1, Value.int .i64 1, Value.int .i64 2, Value.int .i64 2, Value.int .i64 3, Value.int .i64 4, Value.int .i64 5, Value.int .i64 6, Value.int .i64 7, Value.int .i64 7, Value.int .i64 8, Value.int .i64 9, Value.int .i64 10] : Array Value)[j.1]? = some (.int .i64 ((kindF j.1 : Nat) : Int)) := by
    intro j
    rcases j with ⟨j, hj⟩
    have e : j = 0 ∨ j = 1 ∨ j = 2 ∨ j = 3 ∨ j = 4 ∨ j = 5 ∨ j = 6 ∨ j = 7 ∨ j = 8 ∨ j = 9 ∨ j = 10 ∨ j = 11 ∨ j = 12 ∨ j = 13 ∨ j = 14 ∨ j = 15 ∨ j = 16 := by omega
    rcases e with rfl | rfl | rfl | rfl | rfl | rfl | rfl | rfl | rfl | rfl | rfl | rfl | rfl | rfl | rfl | rfl | rfl <;> rfl
  exact this ⟨j, hj⟩
theorem Rd.drop1 {w : World} {g o n c : Nat} {f : Nat → Nat} (h : ∀ i, i < n → w.rangeAt g (o + i * 1) (byL (f i))) (k : Nat) (p : Option Addr) (hp : k < n → p = some ⟨g, o + k, none⟩) (hc : n ≤ c) : Rd layB w (.slice p (n - k) (c - k)) (n - k) (fun i => f (k + i)) :=
  ⟨p, c - k, rfl, by omega, fun q => ⟨g, o + k, hp (by omega), fun i hi => by
    have := h (k + i) (by omega)
    rwa [show o + (k + i) * 1 = o + k + i * 1 by omega] at this⟩⟩
/-- The loop of Script. -/
structure ScR (w wr : World) (v0 v3 : Value) (n m : Nat) (f : Nat → Nat) (g : Nat → StepV) : Prop where
  chg : Chg (fun _ => False) w wr
  src : Rd layB w v0 n f
  by8 : ∀ i, i < n → f i < 256
  own : OwnDV layS 42 wr v3 m g
  ge : ∀ k, v3.ownBlock = some k → w.heap.size ≤ k
  ok : ∀ i, i < m → okStep (g i)
def snocS (m : Nat) (h : Nat → StepV) (r : StepV) : Nat → StepV := fun j => if j < m then h j else r
theorem ScR.chg0 {w wr W : World} {v0 v3 : Value} {n m : Nat} {f : Nat → Nat} {g : Nat → StepV} (H : ScR w wr v0 v3 n m f g) (C : Chg (fun _ => False) wr W) : ScR w W v0 v3 n m f g :=
  ⟨H.chg.trans C, H.src, H.by8, H.own.chg C (fun _ _ => id), H.ge, H.ok⟩
theorem ScR.rd {w wr : World} {v0 v3 : Value} {n m : Nat} {f : Nat → Nat} {g : Nat → StepV} (H : ScR w wr v0 v3 n m f g) : Rd layB wr v0 n f := H.src.chg0 H.chg
theorem by_cells {W : World} {g o : Nat} {b : Nat} (h : W.rangeAt g o (byL b)) : W.cell? ⟨g, o, none⟩ = some (.int .u8 ((b : Nat) : Int)) := h 0 _ rfl
theorem blk_new {W : World} {B : Nat} {o : Obj} (hB : B = W.heap.size) : (W.alloc o).heap[B]? = some o := by
  subst hB; exact heap_alloc_new W o
theorem blk_plus {W : World} {B : Nat} {o : Obj} (h : W.heap[B]? = some o) (d : Nat) (os : Array Obj) : (W.plus d os).heap[B]? = some o :=
  (World.heap_plus W d os (Array.getElem?_eq_some_iff.1 h).1).trans h
theorem blk_alloc {W : World} {B : Nat} {o : Obj} (h : W.heap[B]? = some o) (o2 : Obj) : (W.alloc o2).heap[B]? = some o :=
  (Below.heap_alloc W o2 B (Array.getElem?_eq_some_iff.1 h).1).trans h
theorem blk_drew {W : World} {B : Nat} {o : Obj} (h : W.heap[B]? = some o) : W.drew.heap[B]? = some o := h
theorem Rd.newSt {W : World} {B : Nat} {cs : Array Value} (s : StepV) (hB : B = W.heap.size) (hcs : cs.toList = stL s) : Rd layS (W.alloc (.cells cs 42)) (.slice (some ⟨B, 0, none⟩) 1 1) 1 (fun _ => s) := by
  subst hB
  exact Rd.new (D := layS) (E := 42) W cs s hcs
theorem ok_snoc {m : Nat} {g : Nat → StepV} {s : StepV} (h : ∀ i, i < m → okStep (g i)) (hs : okStep s) : ∀ i, i < m + 1 → okStep (snocS m g s i) := fun i hi => by
  unfold snocS
  by_cases e : i < m
  · rw [if_pos e]; exact h i e
  · rw [if_neg e]; exact hs
theorem rd_rows {w : World} {G o n c : Nat} {f : Nat → Nat} (h : Rd layB w (.slice (some ⟨G, o, none⟩) n c) n f) (i : Nat) (hi : i < n) : w.rangeAt G (o + i * 1) (byL (f i)) := by
  obtain ⟨p, k, e, _, hr⟩ := h
  obtain ⟨g, o', e2, hr⟩ := hr (by omega)
  simp only [Value.slice.injEq] at e
  rw [← e.1] at e2
  simp only [Option.some.injEq, Addr.mk.injEq] at e2
  obtain ⟨e3, e4, _⟩ := e2
  have := hr i hi
  rwa [← e3, ← e4] at this
theorem scr_app {w W w2 : World} {v0 v3 v' : Value} {n m m' : Nat} {f : Nat → Nat} {g g' : Nat → StepV} (H : ScR w W v0 v3 n m f g) (hO : OwnDV layS 42 w2 v' m' g') (hC : Chg (AtV v3) W w2) (hat : v'.ownBlock = v3.ownBlock ∨ v'.ownBlock = some W.heap.size) : Chg (fun _ => False) w w2 ∧ OwnDV layS 42 w2 v' m' g' ∧ (∀ k, v'.ownBlock = some k → w.heap.size ≤ k) := by
  refine ⟨Chg.app H.chg hC H.ge, hO, fun k e => ?_⟩
  · rcases hat with q | q
    · exact H.ge k (by rw [← q]; exact e)
    · rw [q] at e
      have := H.chg.size
      simp only [Option.some.injEq] at e
      omega
@[go_sem] theorem arr55 (a : Option Addr) (cap : Nat) (w : World) : (Instr.arrayAt 55 (.slice a 8 cap)).run Tryz.prog w = .ok (.pointer a) w := by
  simp [Instr.arrayAt, go_sem]
def ScP (w : World) (e : Ending) (w' : World) : Prop := ∃ p m c g, e = .returned (.slice p m c) ∧ Hid (Chg (fun _ => False) w w' ∧ Rd layS w' (.slice p m c) m g ∧ m ≤ 40 ∧ ∀ i, i < m → okStep (g i))
set_option maxRecDepth 100000 in
set_option maxHeartbeats 4000000 in
theorem c8 (v0 : Value) (n : Nat) (f : Nat → Nat) (hn : n ≤ 2147483647) (w : World) (H : Rd layB w v0 n f) (hf : ∀ i, i < n → f i < 256) :
    Calls Tryz.prog 8 #[v0] w (ScP w) := by
  obtain ⟨p, c, rfl, hnc, hr⟩ := H
  have HR : Hid (Rd layB w (.slice p n c) n f) := ⟨p, c, rfl, hnc, hr⟩
  have HF : Hid _ := hf
  clear hr hf
  go_enter Tryz.func8, Tryz.ntmps8

  go_wp2_with fail
  go_loopw [0, 3] (fun t0 t3 wr => ∃ (n1 m c1 c0 : Nat) (p1 p0 : Option Addr) (f1 : Nat → Nat) (g : Nat → StepV), t0 = .slice p1 n1 c1 ∧ t3 = .slice p0 m c0 ∧ n1 ≤ n ∧ m ≤ 40 ∧ Hid (ScR w wr (.slice p1 n1 c1) (.slice p0 m c0) n1 m f1 g))
    (fun t0 _ _ => lenOf t0)
  case atStart => exact ⟨n, 0, c, 0, p, none, f, fun _ => ⟨0, (0, 0), 0⟩, rfl, rfl, Nat.le_refl _, by omega, ⟨.refl _ _, HR.out, HF.out, .nil _, fun k e => by simp [Value.ownBlock] at e, fun i hi => by omega⟩⟩
  case round =>
    clear HR HF f hnc p c
    obtain ⟨n1, m, c1, c0, p1, p0, f, g, rfl, rfl, hn1, hm, X⟩ := hrel
    by_cases hlt : 10 ≤ n1
    · by_cases hlm : m < 40
      · obtain ⟨q1, q2, eq, ql, hrow0⟩ := X.out.rd
        obtain ⟨G, o, e1, hrow⟩ := hrow0 (by omega)
        clear hrow0
        simp only [Value.slice.injEq, true_and] at eq
        obtain ⟨e2, e3⟩ := eq
        subst e3 e2 e1
        have hby := X.out.by8
        have hrow' : ∀ i, i < n1 → wr.cell? ⟨G, o + i, none⟩ = some (.int .u8 ((f i : Nat) : Int)) := fun i hi => by
          have := by_cells (hrow i hi)
          rwa [show o + i * layB.c = o + i by show o + i * 1 = o + i; omega] at this
        have HROW : Hid (∀ i, i < n1 → wr.rangeAt G (o + i * 1) (byL (f i))) := hrow
        have HCELL : Hid _ := hrow'
        have y0 := hby 0 (by omega)
        have y1 := hby 1 (by omega)
        have y2 := hby 2 (by omega)
        have y3 := hby 3 (by omega)
        have y4 := hby 4 (by omega)
        have y5 := hby 5 (by omega)
        have y6 := hby 6 (by omega)
        have y7 := hby 7 (by omega)
        have y8 := hby 8 (by omega)
        have y9 := hby 9 (by omega)
        clear hrow hrow' hby
        have zm : decide ((m : Int) < 40) = true := decide_eq_true (by omega)
        have zm1 : (m : Int) < 40 := by omega
        have z0 : 0 < n1 := by omega
        have z9 : 9 < n1 := by omega
        have z99 : (9 : Int) < (n1 : Int) := by omega
        have z00 : (0 : Int) < (n1 : Int) := by omega
        have zc : 9 ≤ c1 := by omega
        have zci : (9 : Int) ≤ (c1 : Int) := by omega
        have zc1 : ¬ c1 = 1 := by omega
        obtain ⟨jj, HJ⟩ : ∃ j, Hid (f 0 % 17 = j ∧ j < 17) := ⟨_, rfl, Nat.mod_lt _ (by omega)⟩
        go_upto_region 3 with fail
        go_cut [4] from 14 to 64 (fun t4 wx => ∃ b4 : Nat, t4 = .slice (some ⟨b4, 0, none⟩) 17 17 ∧ Hid (Chg (fun _ => False) wr wx ∧ wx.cell? ⟨b4, jj, none⟩ = some (.int .i64 ((kindF jj : Nat) : Int))))
        case first =>
          go_wp2_with fail
          go_meet
          case rel => exact ⟨_, rfl, by (repeat (with_reducible first | refine Chg.plus ?_ _ _ | refine Chg.alloc ?_ _ | refine Chg.drew ?_ | exact Chg.refl _ _)), kinds_cell _ _ _ HJ.out.2 rfl⟩
        case rest =>
          obtain ⟨b4, rfl, Z⟩ := hcut
          have HW : Hid (Chg (fun _ => False) wr wc) := Z.out.1
          have ck := Z.out.2
          have hb4 : b4 < wc.heap.size := World.block_lt_of_cell? _ _ ck
          have cell : ∀ i, i < n1 → wc.cell? ⟨G, o + i, none⟩ = some (.int .u8 ((f i : Nat) : Int)) := fun i hi => (World.cell?_of_block (HW.out.block G (World.block_lt_of_cell? _ _ (HCELL.out i hi)) id)).trans (HCELL.out i hi)
          have cd0 := cell 0 (by omega)
          rw [Nat.add_zero] at cd0
          have cd1 := cell 1 (by omega)
          have cd2 := cell 2 (by omega)
          have cd3 := cell 3 (by omega)
          have cd4 := cell 4 (by omega)
          have cd5 := cell 5 (by omega)
          have cd6 := cell 6 (by omega)
          have cd7 := cell 7 (by omega)
          have cd8 := cell 8 (by omega)
          have cd9 := cell 9 (by omega)
          have hG : G < wc.heap.size := World.block_lt_of_cell? _ _ cd0
          have hw0 : IntKind.i64.wrap ((f 0 : Nat) : Int) = ((f 0 : Nat) : Int) := IntWalk.i64_in _ (by omega)
          have hmod2 : (((f 0 : Nat) : Int)).tmod 17 = (jj : Int) := by rw [Int.tmod_eq_emod_of_nonneg (by omega)]; have := HJ.out.1; omega
          have hj1 : (jj : Int) < 17 := by have := HJ.out.2; omega
          have hj2 : jj < 17 := HJ.out.2
          clear Z cell
          go_upto_region 4 with fail
          go_cut [5] from 14 to 64 (fun t5 wx => ∃ (b5 : Nat) (r : Nat × Nat), t5 = .pointer (some ⟨b5, 0, none⟩) ∧ Hid (okR r ∧ Chg (fun _ => False) wc wx ∧ wx.heap[b5]? = some (.cells #[.int .i64 ((kindF jj : Nat) : Int), .bool (sK r.1), .int .u64 (hK r.1), .int .u64 (mK r.1), .bool (sK r.2), .int .u64 (hK r.2), .int .u64 (mK r.2), .int .i64 0] 42 (0, 0)) ∧ wc.heap.size ≤ b5))
          case first =>
            go_region_held3 (fun w' => KS (wc) w') (repeat (first | exact KS.refl _ | assumption | apply KS.drew | apply KS.plus | apply KS.alloc | (refine KS.setCell ?_ _ _ _ (by first | (simp; done) | (simp; omega))))) (first | (go_at_call 22; (refine (k22 _ _ _ _ _ _ _ _ (by omega) (by omega) (by omega) (by omega) (by omega) (by omega) (by omega) (by omega) (by omega) (by omega) (by omega) (by omega) (by omega) (by omega) (by omega) (by omega) _).mono ?_); rintro e w' ⟨r, rfl, Z⟩; obtain ⟨or, dd, oo, rfl⟩ := Z.out; have OR : Hid (okR r) := or; clear Z or))
            all_goals (
              go_wp2_with fail
              go_meet
              case rel =>
                refine ⟨_, r, rfl, OR.out, by (repeat (with_reducible first | refine Chg.plus ?_ _ _ | refine Chg.alloc ?_ _ | refine Chg.drew ?_ | exact Chg.refl _ _)), ?_, by simp; try omega⟩
                (repeat (with_reducible first | exact blk_new (by simp) | refine blk_plus ?_ _ _ | refine blk_alloc ?_ _ | refine blk_drew ?_)))
          case rest =>
            clear cd0 cd1 cd2 cd3 cd4 cd5 cd6 cd7 cd8 ck hb4 hw0 hmod2 hj1 hj2
            obtain ⟨b5, r, rfl, Z⟩ := hcut
            have OR : Hid (okR r) := Z.out.1
            have HW1 : Hid _ := Z.out.2.1
            have HB5 : Hid _ := Z.out.2.2.1
            have HL5 : Hid (_ ≤ b5) := Z.out.2.2.2
            have hk0 := HB5.out
            have cx0 := (cell_of_row wc b5 0 _ 42 (0, 0) hk0)
            have cx1 := (cell_of_row wc b5 1 _ 42 (0, 0) hk0)
            have cx2 := (cell_of_row wc b5 2 _ 42 (0, 0) hk0)
            have cx3 := (cell_of_row wc b5 3 _ 42 (0, 0) hk0)
            have cx4 := (cell_of_row wc b5 4 _ 42 (0, 0) hk0)
            have cx5 := (cell_of_row wc b5 5 _ 42 (0, 0) hk0)
            have cx6 := (cell_of_row wc b5 6 _ 42 (0, 0) hk0)
            have cx7 := (cell_of_row wc b5 7 _ 42 (0, 0) hk0)
            have fx7 : wc.frozen? ⟨b5, 7, none⟩ = false := by unfold World.frozen?; simp [hk0]
            have hl5 : b5 < wc.heap.size := (Array.getElem?_eq_some_iff.1 hk0).1
            simp only [List.getElem?_toArray, List.getElem?_cons_zero, List.getElem?_cons_succ] at cx0 cx1 cx2 cx3 cx4 cx5 cx6 cx7
            clear Z hk0
            obtain ⟨cell9, _⟩ : wc.cell? ⟨G, o + 9, none⟩ = some (.int .u8 ((f 9 : Nat) : Int)) ∧ True := ⟨(World.cell?_of_block (HW1.out.block G (by omega) id)).trans cd9, trivial⟩
            have hG' : G < wc.heap.size := World.block_lt_of_cell? _ _ cell9
            have hlen1 : lenK r.1 ≤ 128 := by unfold lenK; split <;> omega
            have hlen2 : 32 ≤ lenK r.1 := by unfold lenK; split <;> omega
            go_upto_region 5 with fail
            refine wp_region_plus_tail 11 (by kernel_rfl) (by kernel_rfl) ?_
            simp only [List.take_succ_cons, List.take_zero, List.drop_succ_cons, List.drop_zero]
            repeat (go_big_quiet_step (first | (go_at_call 18; (with_reducible exact Calls.plus_of (k18 r.1 _)))))
            refine wpQuiet_nil ?_
            intro _ hq
            obtain ⟨⟨dq, oq⟩, rfl⟩ := hq
            have HGE : Hid (wr.heap.size ≤ b5) := Nat.le_trans HW.out.size HL5.out
            have HWC : Hid (Chg (fun _ => False) wr wc) := HW.out.trans HW1.out
            clear HW HW1 HL5
            by_cases hb : f 9 / 12 % 8 = 0
            · have hbb : (((f 9 : Nat) : Int) / 12 % 8 == 0) = true := by rw [beq_iff_eq]; omega
              obtain ⟨bb, hbv⟩ : ∃ b : Nat, Hid (((f 9 : Nat) : Int) % (((lenK r.1 : Nat) : Int) + 1) = (b : Int) ∧ b ≤ lenK r.1) := ⟨f 9 % (lenK r.1 + 1), by rw [Int.natCast_emod, Int.natCast_add]; rfl, by have := Nat.mod_lt (f 9) (show 0 < lenK r.1 + 1 by omega); omega⟩
              clear hb
              go_wp2_with fail
              refine wp_region_plus_tail 11 (by kernel_rfl) (by kernel_rfl) ?_
              simp only [List.take_succ_cons, List.take_zero, List.drop_succ_cons, List.drop_zero]
              repeat (go_big_quiet_step (first | (go_at_call 18; (with_reducible exact Calls.plus_of (k18 r.1 _)))))
              refine wpQuiet_nil ?_
              intro _ hq
              obtain ⟨⟨dq, oq⟩, rfl⟩ := hq
              by_cases hc10 : c1 = 10
              · go_wp2_with (first | (at_builtin; refine appD rfl (.tmp 59) (.tmp 61) 23 64 infoS under23 (by omega) rfl (.slice p0 m c0) m g rfl ((ScR.chg0 X.out (by (repeat (with_reducible first | exact Chg.refl _ _ | exact HWC.out | refine Chg.plus ?_ _ _ | refine Chg.alloc ?_ _ | refine Chg.drew ?_ | (refine Chg.setCell ?_ _ _ (fun h => absurd h (by have := HGE.out; have := HWC.out.size; simp only []; omega))))))).own) 1 (fun _ => ⟨kindF jj, r, bb⟩) (Rd.newSt ⟨kindF jj, r, bb⟩ (by simp) (by have e := hbv.out.1; unfold stL; simp only [e])) (by omega) ?_; intro p2 c2 w2 hO hC hat; have HY : Hid (Chg (fun _ => False) w w2 ∧ OwnDV layS 42 w2 (.slice p2 (m + 1) c2) (m + 1) (snocS m g ⟨kindF jj, r, bb⟩) ∧ (∀ k, (Value.slice p2 (m + 1) c2).ownBlock = some k → w.heap.size ≤ k)) := scr_app (ScR.chg0 X.out (by (repeat (with_reducible first | exact Chg.refl _ _ | exact HWC.out | refine Chg.plus ?_ _ _ | refine Chg.alloc ?_ _ | refine Chg.drew ?_ | (refine Chg.setCell ?_ _ _ (fun h => absurd h (by have := HGE.out; have := HWC.out.size; simp only []; omega))))))) hO.out hC hat.out; clear hO hC hat))
                go_roundw
                case rel =>
                  obtain ⟨u1, u2, u3⟩ := HY.out
                  have u4 := X.out.src
                  refine ⟨n1 - 10, m + 1, 0, c2, some ⟨G, o, none⟩, p2, fun i => f (10 + i), snocS m g ⟨kindF jj, r, bb⟩, rfl, rfl, by omega, by omega, ⟨u1, ?_, ?_, u2, u3, ?_⟩⟩
                  · have := Rd.drop1 (rd_rows u4) 10 (some ⟨G, o, none⟩) (fun q => by omega) (c := c1) (by omega)
                    rwa [show c1 - 10 = 0 by omega] at this
                  · exact fun i hi => X.out.by8 (10 + i) (by omega)
                  · exact ok_snoc X.out.ok ⟨kindF_le jj, OR.out, hbv.out.2⟩
                case measure => simp [lenOf]; omega

              · go_wp2_with (first | (at_builtin; refine appD rfl (.tmp 59) (.tmp 61) 23 64 infoS under23 (by omega) rfl (.slice p0 m c0) m g rfl ((ScR.chg0 X.out (by (repeat (with_reducible first | exact Chg.refl _ _ | exact HWC.out | refine Chg.plus ?_ _ _ | refine Chg.alloc ?_ _ | refine Chg.drew ?_ | (refine Chg.setCell ?_ _ _ (fun h => absurd h (by have := HGE.out; have := HWC.out.size; simp only []; omega))))))).own) 1 (fun _ => ⟨kindF jj, r, bb⟩) (Rd.newSt ⟨kindF jj, r, bb⟩ (by simp) (by have e := hbv.out.1; unfold stL; simp only [e])) (by omega) ?_; intro p2 c2 w2 hO hC hat; have HY : Hid (Chg (fun _ => False) w w2 ∧ OwnDV layS 42 w2 (.slice p2 (m + 1) c2) (m + 1) (snocS m g ⟨kindF jj, r, bb⟩) ∧ (∀ k, (Value.slice p2 (m + 1) c2).ownBlock = some k → w.heap.size ≤ k)) := scr_app (ScR.chg0 X.out (by (repeat (with_reducible first | exact Chg.refl _ _ | exact HWC.out | refine Chg.plus ?_ _ _ | refine Chg.alloc ?_ _ | refine Chg.drew ?_ | (refine Chg.setCell ?_ _ _ (fun h => absurd h (by have := HGE.out; have := HWC.out.size; simp only []; omega))))))) hO.out hC hat.out; clear hO hC hat))
                go_roundw
                case rel =>
                  obtain ⟨u1, u2, u3⟩ := HY.out
                  have u4 := X.out.src
                  refine ⟨n1 - 10, m + 1, c1 - 10, c2, _, p2, fun i => f (10 + i), snocS m g ⟨kindF jj, r, bb⟩, rfl, rfl, by omega, by omega, ⟨u1, ?_, ?_, u2, u3, ?_⟩⟩
                  · exact Rd.drop1 (rd_rows u4) 10 _ (fun q => by first | rfl | omega) (by omega)
                  · exact fun i hi => X.out.by8 (10 + i) (by omega)
                  · exact ok_snoc X.out.ok ⟨kindF_le jj, OR.out, hbv.out.2⟩
                case measure => simp [lenOf]; omega

            · have hbb : (((f 9 : Nat) : Int) / 12 % 8 == 0) = false := by rw [beq_eq_false_iff_ne]; omega
              obtain ⟨bb, hbv⟩ : ∃ b : Nat, Hid (((lenK r.1 : Nat) : Int) - ((f 9 : Nat) : Int) % 12 = (b : Int) ∧ b ≤ lenK r.1) := ⟨lenK r.1 - f 9 % 12, by omega, by omega⟩
              clear hb
              by_cases hc10 : c1 = 10
              · go_wp2_with (first | (at_builtin; refine appD rfl (.tmp 59) (.tmp 61) 23 64 infoS under23 (by omega) rfl (.slice p0 m c0) m g rfl ((ScR.chg0 X.out (by (repeat (with_reducible first | exact Chg.refl _ _ | exact HWC.out | refine Chg.plus ?_ _ _ | refine Chg.alloc ?_ _ | refine Chg.drew ?_ | (refine Chg.setCell ?_ _ _ (fun h => absurd h (by have := HGE.out; have := HWC.out.size; simp only []; omega))))))).own) 1 (fun _ => ⟨kindF jj, r, bb⟩) (Rd.newSt ⟨kindF jj, r, bb⟩ (by simp) (by have e := hbv.out.1; unfold stL; simp only [e])) (by omega) ?_; intro p2 c2 w2 hO hC hat; have HY : Hid (Chg (fun _ => False) w w2 ∧ OwnDV layS 42 w2 (.slice p2 (m + 1) c2) (m + 1) (snocS m g ⟨kindF jj, r, bb⟩) ∧ (∀ k, (Value.slice p2 (m + 1) c2).ownBlock = some k → w.heap.size ≤ k)) := scr_app (ScR.chg0 X.out (by (repeat (with_reducible first | exact Chg.refl _ _ | exact HWC.out | refine Chg.plus ?_ _ _ | refine Chg.alloc ?_ _ | refine Chg.drew ?_ | (refine Chg.setCell ?_ _ _ (fun h => absurd h (by have := HGE.out; have := HWC.out.size; simp only []; omega))))))) hO.out hC hat.out; clear hO hC hat))
                go_roundw
                case rel =>
                  obtain ⟨u1, u2, u3⟩ := HY.out
                  have u4 := X.out.src
                  refine ⟨n1 - 10, m + 1, 0, c2, some ⟨G, o, none⟩, p2, fun i => f (10 + i), snocS m g ⟨kindF jj, r, bb⟩, rfl, rfl, by omega, by omega, ⟨u1, ?_, ?_, u2, u3, ?_⟩⟩
                  · have := Rd.drop1 (rd_rows u4) 10 (some ⟨G, o, none⟩) (fun q => by omega) (c := c1) (by omega)
                    rwa [show c1 - 10 = 0 by omega] at this
                  · exact fun i hi => X.out.by8 (10 + i) (by omega)
                  · exact ok_snoc X.out.ok ⟨kindF_le jj, OR.out, hbv.out.2⟩
                case measure => simp [lenOf]; omega

              · go_wp2_with (first | (at_builtin; refine appD rfl (.tmp 59) (.tmp 61) 23 64 infoS under23 (by omega) rfl (.slice p0 m c0) m g rfl ((ScR.chg0 X.out (by (repeat (with_reducible first | exact Chg.refl _ _ | exact HWC.out | refine Chg.plus ?_ _ _ | refine Chg.alloc ?_ _ | refine Chg.drew ?_ | (refine Chg.setCell ?_ _ _ (fun h => absurd h (by have := HGE.out; have := HWC.out.size; simp only []; omega))))))).own) 1 (fun _ => ⟨kindF jj, r, bb⟩) (Rd.newSt ⟨kindF jj, r, bb⟩ (by simp) (by have e := hbv.out.1; unfold stL; simp only [e])) (by omega) ?_; intro p2 c2 w2 hO hC hat; have HY : Hid (Chg (fun _ => False) w w2 ∧ OwnDV layS 42 w2 (.slice p2 (m + 1) c2) (m + 1) (snocS m g ⟨kindF jj, r, bb⟩) ∧ (∀ k, (Value.slice p2 (m + 1) c2).ownBlock = some k → w.heap.size ≤ k)) := scr_app (ScR.chg0 X.out (by (repeat (with_reducible first | exact Chg.refl _ _ | exact HWC.out | refine Chg.plus ?_ _ _ | refine Chg.alloc ?_ _ | refine Chg.drew ?_ | (refine Chg.setCell ?_ _ _ (fun h => absurd h (by have := HGE.out; have := HWC.out.size; simp only []; omega))))))) hO.out hC hat.out; clear hO hC hat))
                go_roundw
                case rel =>
                  obtain ⟨u1, u2, u3⟩ := HY.out
                  have u4 := X.out.src
                  refine ⟨n1 - 10, m + 1, c1 - 10, c2, _, p2, fun i => f (10 + i), snocS m g ⟨kindF jj, r, bb⟩, rfl, rfl, by omega, by omega, ⟨u1, ?_, ?_, u2, u3, ?_⟩⟩
                  · exact Rd.drop1 (rd_rows u4) 10 _ (fun q => by first | rfl | omega) (by omega)
                  · exact fun i hi => X.out.by8 (10 + i) (by omega)
                  · exact ok_snoc X.out.ok ⟨kindF_le jj, OR.out, hbv.out.2⟩
                case measure => simp [lenOf]; omega

      · have zm : decide ((m : Int) < 40) = false := decide_eq_false (by omega)
        go_wp2_with fail
        go_ret
        exact ⟨_, m, _, g, rfl, X.out.chg, X.out.own.rd, hm, X.out.ok⟩
    · go_wp2_with fail
      go_ret
      exact ⟨_, m, _, g, rfl, X.out.chg, X.out.own.rd, hm, X.out.ok⟩
end Go.Proofs.YtmoabfpdlbngeaaGreatDoor
end
