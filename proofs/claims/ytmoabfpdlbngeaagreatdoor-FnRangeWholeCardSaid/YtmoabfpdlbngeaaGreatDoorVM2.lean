/-
  Part of the proofs on the laws of pub-addresssets: joined texts (M2).
-/
import Derived.Test.YtmoabfpdlbngeaaGreatDoorVOwn
section
namespace Go.Proofs.YtmoabfpdlbngeaaGreatDoor
open Go.RowKit
set_option maxHeartbeats 400000
set_option linter.unusedVariables false
set_option linter.unusedSimpArgs false
theorem make80 {ops : Array Oper} {rest : List Oper} {o : Oper} {a : Act} {w : World} {Q : Exit → Act → World → Prop} (hg : o.guard = none) (l c : Operand) (hop : o.op = Op.makeSlice 71 l c)
    (L n : Nat) (hl : a.eval l = .int .i64 (L : Int)) (hc : a.eval c = .int .i64 (n : Int)) (hLn : L ≤ n) (hn : n ≤ 1000000000)
    (hK : ∀ w', Plus w w' → w.heap.size < w'.heap.size → Hid (∃ cur, w'.heap[w.heap.size]? = some (.cells cur 80 (0, 0)) ∧ cur.size = n * 10) → wpList Tryz.prog ops Q rest (a.put o.dst (.slice (some ⟨w.heap.size, 0, none⟩) L n)) w') :
    wpList Tryz.prog ops Q (o :: rest) a w := by
  obtain ⟨i, z, hi, hz, h1, h2, h3⟩ := info80
  refine wpList_plain hg fun K hK' => ?_
  have hrun := run_make (P := Tryz.prog) w 71 80 i z under71 hi hz .i64 .i64 (L : Int) (n : Int) (by omega) (by omega) (by rw [h2]; omega) (by omega)
  simp only [Int.toNat_natCast] at hrun
  unfold Oper.wp
  simp only [execOp, hop, hl, hc, hrun, Sem.run_bind, Result.andThen]
  refine hK' _ _ (hK _ (Plus.alloc (Plus.refl w) _) (by simp) ⟨_, heap_alloc_new w _, ?_⟩)
  rw [size_madeCells, h1]
theorem setCells_rc0 (W : World) (g : Nat) (r : Nat × Nat) : ((((((((((W.setCell ⟨g, 0, none⟩ (.int .u64 (hK r.1))).setCell ⟨g, 1, none⟩ (.int .u64 (lK r.1))).setCell ⟨g, 2, none⟩ (.bool true)).setCell ⟨g, 3, none⟩ (.bool (sK r.1))).setCell ⟨g, 4, none⟩ (.string ⟨#[]⟩)).setCell ⟨g, 5, none⟩ (.int .u64 (hK r.2))).setCell ⟨g, 6, none⟩ (.int .u64 (lK r.2))).setCell ⟨g, 7, none⟩ (.bool true)).setCell ⟨g, 8, none⟩ (.bool (sK r.2))).setCell ⟨g, 9, none⟩ (.string ⟨#[]⟩)) = W.setCells g (0 + 0 * 10) (rcL r) := rfl
/-- A new row, before its first element: its cells are there. -/
theorem blk_there {w : World} {G n : Nat} (hn : 0 < n) (H : Hid (∃ cur, w.heap[G]? = some (.cells cur 80 (0, 0)) ∧ cur.size = n * 10)) : w.there G 0 10 := fun j hj => by
  obtain ⟨cur, hc, hs⟩ := H.out
  constructor
  · rw [cell_of_row w G _ cur 80 (0, 0) hc, Array.getElem?_eq_getElem (by omega)]; rfl
  · unfold World.frozen?; simp [hc]
theorem blk_first {w : World} {G n : Nat} (hn : 0 < n) (hm : n ≤ maxLen) (H : Hid (∃ cur, w.heap[G]? = some (.cells cur 80 (0, 0)) ∧ cur.size = n * 10)) (r : Nat × Nat) : OwnR (w.setCells G (0 + 0 * 10) (rcL r)) G 1 n (fun _ => r) := by
  have ht := blk_there hn H
  obtain ⟨cur, hc, hs⟩ := H.out
  obtain ⟨cur', h1, h2⟩ := blk_setCells (rcL r) (0 + 0 * 10) hc
  exact ⟨⟨cur', h1, h2.trans hs⟩, hn, hm, fun i hi => by rw [show i = 0 by omega]; exact World.rangeAt_setCells_same w G _ (rcL r) ht⟩
theorem blk_cells {w : World} {G n : Nat} (hn : 0 < n) (H : Hid (∃ cur, w.heap[G]? = some (.cells cur 80 (0, 0)) ∧ cur.size = n * 10)) : ∃ v0 v1 v2 v3 v4 v5 v6 v7 v8 v9, w.cell? ⟨G, 0, none⟩ = some v0 ∧ w.frozen? ⟨G, 0, none⟩ = false ∧ w.cell? ⟨G, 1, none⟩ = some v1 ∧ w.frozen? ⟨G, 1, none⟩ = false ∧ w.cell? ⟨G, 2, none⟩ = some v2 ∧ w.frozen? ⟨G, 2, none⟩ = false ∧ w.cell? ⟨G, 3, none⟩ = some v3 ∧ w.frozen? ⟨G, 3, none⟩ = false ∧ w.cell? ⟨G, 4, none⟩ = some v4 ∧ w.frozen? ⟨G, 4, none⟩ = false ∧ w.cell? ⟨G, 5, none⟩ = some v5 ∧ w.frozen? ⟨G, 5, none⟩ = false ∧ w.cell? ⟨G, 6, none⟩ = some v6 ∧ w.frozen? ⟨G, 6, none⟩ = false ∧ w.cell? ⟨G, 7, none⟩ = some v7 ∧ w.frozen? ⟨G, 7, none⟩ = false ∧ w.cell? ⟨G, 8, none⟩ = some v8 ∧ w.frozen? ⟨G, 8, none⟩ = false ∧ w.cell? ⟨G, 9, none⟩ = some v9 ∧ w.frozen? ⟨G, 9, none⟩ = false := by
  have ht := blk_there hn H
  obtain ⟨v0, e0⟩ := Option.isSome_iff_exists.1 (ht 0 (by omega)).1
  have f0 := (ht 0 (by omega)).2
  rw [Nat.zero_add] at e0 f0
  obtain ⟨v1, e1⟩ := Option.isSome_iff_exists.1 (ht 1 (by omega)).1
  have f1 := (ht 1 (by omega)).2
  rw [Nat.zero_add] at e1 f1
  obtain ⟨v2, e2⟩ := Option.isSome_iff_exists.1 (ht 2 (by omega)).1
  have f2 := (ht 2 (by omega)).2
  rw [Nat.zero_add] at e2 f2
  obtain ⟨v3, e3⟩ := Option.isSome_iff_exists.1 (ht 3 (by omega)).1
  have f3 := (ht 3 (by omega)).2
  rw [Nat.zero_add] at e3 f3
  obtain ⟨v4, e4⟩ := Option.isSome_iff_exists.1 (ht 4 (by omega)).1
  have f4 := (ht 4 (by omega)).2
  rw [Nat.zero_add] at e4 f4
  obtain ⟨v5, e5⟩ := Option.isSome_iff_exists.1 (ht 5 (by omega)).1
  have f5 := (ht 5 (by omega)).2
  rw [Nat.zero_add] at e5 f5
  obtain ⟨v6, e6⟩ := Option.isSome_iff_exists.1 (ht 6 (by omega)).1
  have f6 := (ht 6 (by omega)).2
  rw [Nat.zero_add] at e6 f6
  obtain ⟨v7, e7⟩ := Option.isSome_iff_exists.1 (ht 7 (by omega)).1
  have f7 := (ht 7 (by omega)).2
  rw [Nat.zero_add] at e7 f7
  obtain ⟨v8, e8⟩ := Option.isSome_iff_exists.1 (ht 8 (by omega)).1
  have f8 := (ht 8 (by omega)).2
  rw [Nat.zero_add] at e8 f8
  obtain ⟨v9, e9⟩ := Option.isSome_iff_exists.1 (ht 9 (by omega)).1
  have f9 := (ht 9 (by omega)).2
  rw [Nat.zero_add] at e9 f9
  exact ⟨v0, v1, v2, v3, v4, v5, v6, v7, v8, v9, e0, f0, e1, f1, e2, f2, e3, f3, e4, f4, e5, f5, e6, f6, e7, f7, e8, f8, e9, f9⟩
theorem rangeAt_new (W : World) (B : Nat) (r : Nat × Nat) (hB : B = W.heap.size) : (W.alloc (.cells #[.int .u64 (hK r.1), .int .u64 (lK r.1), .bool true, .bool (sK r.1), .string ⟨#[]⟩, .int .u64 (hK r.2), .int .u64 (lK r.2), .bool true, .bool (sK r.2), .string ⟨#[]⟩] 80)).rangeAt B (0 + 0 * 10) (rcL r) := fun j v hv => by
  subst hB
  rw [cell_of_row _ _ _ _ 80 (0, 0) (heap_alloc_new W _), ← hv, show 0 + 0 * 10 + j = j by omega]
  have hj : j < 10 := (List.getElem?_eq_some_iff.1 hv).1
  have e : j = 0 ∨ j = 1 ∨ j = 2 ∨ j = 3 ∨ j = 4 ∨ j = 5 ∨ j = 6 ∨ j = 7 ∨ j = 8 ∨ j = 9 := by omega
  rcases e with e | e | e | e | e | e | e | e | e | e <;> subst e <;> rfl
theorem neK3 (a b : Nat) (oa : okK a) (ob : okK b) (h : a ≠ b) : (¬ hK a = hK b) ∨ (hK a = hK b ∧ ¬ lK a = lK b) ∨ (hK a = hK b ∧ lK a = lK b ∧ ¬ sK a = sK b) := by
  have := neK a b oa ob h
  by_cases p : hK a = hK b
  · by_cases q : lK a = lK b
    · exact .inr (.inr ⟨p, q, fun r => this ⟨p, q, r⟩⟩)
    · exact .inr (.inl ⟨p, q⟩)
  · exact .inl p
theorem MrgI.longer' {i m n : Nat} {f h : Nat → Nat × Nat} (M : MrgI (i + 1) f m h) (o : okR (f (1 + i))) (s : SortR n f) (hi : i + 1 < n) (t : (f (1 + i)).1 ≤ (h (m - 1)).2 + 1) (l : (h (m - 1)).2 ≤ (f (1 + i)).2) :
    MrgI (i + 1 + 1) f m (fun j => if j = m - 1 then ((h (m - 1)).1, (f (1 + i)).2) else h j) := by
  rw [Nat.add_comm 1 i] at *
  exact M.longer o (s.first (by omega) hi) t l
theorem MrgI.more' {i m : Nat} {f h : Nat → Nat × Nat} (M : MrgI (i + 1) f m h) (o : okR (f (1 + i))) (t : (h (m - 1)).2 + 1 < (f (1 + i)).1) :
    MrgI (i + 1 + 1) f (m + 1) (fun j => if j < m then h j else (f (1 + i))) := by
  rw [Nat.add_comm 1 i] at *
  have M' := M.more o t
  obtain ⟨⟨C1, C2⟩, Mp, Ml, Ms, Mm⟩ := M'
  have e : ∀ j, j < m + 1 → (if j < m then h j else f (i + 1 + (j - m))) = (if j < m then h j else f (i + 1)) := fun j hj => by
    by_cases q : j < m
    · rw [if_pos q, if_pos q]
    · rw [if_neg q, if_neg q, show i + 1 + (j - m) = i + 1 by omega]
  refine ⟨⟨fun j hj => by rw [← e j hj]; exact C1 j hj, fun j hj => by have := C2 j hj; rw [e j (by omega), e (j + 1) hj] at this; exact this⟩, Mp, Ml, by rw [← e _ (by omega)]; exact Ms, fun k => by rw [← Mm k, MemR_congr (fun j hj => (e j hj).symm)]⟩
theorem MrgI.skip' {i m n : Nat} {f h : Nat → Nat × Nat} (M : MrgI (i + 1) f m h) (s : SortR n f) (hi : i + 1 < n) (l : (f (1 + i)).2 ≤ (h (m - 1)).2) : MrgI (i + 1 + 1) f m h := by
  rw [Nat.add_comm 1 i] at *
  exact M.skip (s.first (by omega) hi) l
theorem OwnR.setTo' {w : World} {G m cap : Nat} {h : Nat → Nat × Nat} (H : OwnR w G m cap h) (i : Nat) (hi : i < m) (k : Nat) : OwnR (w.setCells G (i * 10 + 5) (adL k)) G m cap (fun j => if j = i then ((h i).1, k) else h j) := by
  have := H.setTo i hi k
  rwa [Nat.zero_add] at this
set_option maxHeartbeats 4000000 in
set_option maxRecDepth 4000 in
theorem x159 (g o n c : Nat) (f0 : Nat → Nat × Nat) (n2 : 2 ≤ n) (hn : n ≤ 100000000) (hc : n ≤ c) (w : World) (hr : RowAt w g o n f0) (hok : ∀ i, i < n → okR (f0 i)) :
    Calls Tryz.prog 159 #[.slice (some ⟨g, o, none⟩) n c] w fun e w' => ∃ (G m cap : Nat) (h : Nat → Nat × Nat), e = .returned (.tuple #[.slice (some ⟨G, 0, none⟩) m cap, .bool true]) ∧ Chg (· = g) w w' ∧ w.heap.size ≤ G ∧ OwnR w' G m cap h ∧ CanonR m h ∧ (∀ k, MemR m h k ↔ MemR n f0 k) ∧ 0 < m ∧ m ≤ n := by
  have hgw : g < w.heap.size := hr.lt (by omega)
  go_enter Tryz.func159, Tryz.ntmps159
  go_wp2_with fail
  refine (c185 g o n c f0 (by omega) w hr hok).mono ?_
  rintro e w1 ⟨rfl, f, C1, hr1, hsm, hso⟩
  have OK : ∀ i, i < n → okR (f i) := fun i hi => by
    obtain ⟨j, hj, e⟩ := (hsm (f i)).1 ⟨i, hi, rfl⟩
    rw [← e]; exact hok j hj
  go_wp2_with (first | (at_make; refine make80 rfl _ _ rfl 1 n rfl rfl ?_ ?_ ?_))
  · omega
  · omega
  intro w2 P2 hlt2 hG
  have C2 : Chg (· = g) w w2 := C1.trans (.of_plus P2)
  have hr2 : RowAt w2 g o n f := hr1.chg (F := fun _ => False) (.of_plus P2) id
  have hGw : w.heap.size ≤ w1.heap.size := C1.size
  clear P2 C1 hr1
  generalize hGe : w1.heap.size = G at *
  have hr2' : RowAt w2 g (o + 10) (n - 1) (fun i => f (1 + i)) := hr2.drop 1 (n - 1) (by omega)
  have hrow0 := hr2.rng 0 (by omega)
  rw [Nat.zero_mul, Nat.add_zero] at hrow0
  obtain ⟨ca0, ca1, ca2, ca3, ca4, ca5, ca6, ca7, ca8, ca9⟩ := rc_cells hrow0
  clear hrow0
  obtain ⟨gv0, gv1, gv2, gv3, gv4, gv5, gv6, gv7, gv8, gv9, ge0, gf0, ge1, gf1, ge2, gf2, ge3, gf3, ge4, gf4, ge5, gf5, ge6, gf6, ge7, gf7, ge8, gf8, ge9, gf9⟩ := blk_cells (by omega) hG
  go_wp2_with fail
  rw [setCells_rc0]
  have C3 : Chg (· = g) w (w2.setCells G (0 + 0 * 10) (rcL (f 0))) := C2.setCells G _ _ (fun q => absurd q (by omega))
  have hO : OwnR (w2.setCells G (0 + 0 * 10) (rcL (f 0))) G 1 n (fun _ => f 0) := blk_first (by omega) (by unfold maxLen; omega) hG (f 0)
  have hr3 : RowAt (w2.setCells G (0 + 0 * 10) (rcL (f 0))) g (o + 10) (n - 1) (fun i => f (1 + i)) := hr2'.chg (F := (· = G)) ((Chg.refl _ w2).setCells G _ _ (fun _ => rfl)) (by omega)
  have hM : MrgI 1 f 1 (fun _ => f 0) := MrgI.startC f (OK 0 (by omega))
  generalize w2.setCells G (0 + 0 * 10) (rcL (f 0)) = w3 at *
  clear C2 hr2 hr2' hlt2 hG ca0 gv0 ge0 gf0 ca1 gv1 ge1 gf1 ca2 gv2 ge2 gf2 ca3 gv3 ge3 gf3 ca4 gv4 ge4 gf4 ca5 gv5 ge5 gf5 ca6 gv6 ge6 gf6 ca7 gv7 ge7 gf7 ca8 gv8 ge8 gf8 ca9 gv9 ge9 gf9
  go_loopw [2, 30] (fun t2 t30 wr => ∃ (i m cap G : Nat) (h : Nat → Nat × Nat), t2 = .slice (some ⟨G, 0, none⟩) m cap ∧ t30 = .int .i64 i ∧ i ≤ n - 1 ∧ w.heap.size ≤ G ∧ Hid (Chg (· = g) w wr ∧ RowAt wr g (o + 10) (n - 1) (fun i => f (1 + i)) ∧ OwnR wr G m cap h ∧ MrgI (i + 1) f m h)) (fun _ t30 _ => n - (intOf t30).toNat)
  case atStart => exact ⟨0, 1, n, G, fun _ => f 0, rfl, rfl, by omega, hGw, C3, hr3, hO, hM⟩
  case round =>
    clear hO hM hr3 C3 hGe hGw
    obtain ⟨i, m, cap, G, h, rfl, rfl, hi, hGw, H⟩ := hrel
    by_cases q : i < n - 1
    · have hg : g < wr.heap.size := H.out.2.1.lt (by omega)
      have hG : G < wr.heap.size := H.out.2.2.1.lt
      have m0 : 0 < m := H.out.2.2.2.pos
      have mi : m ≤ i + 1 := H.out.2.2.2.le
      obtain ⟨ca0, ca1, ca2, ca3, ca4, ca5, ca6, ca7, ca8, ca9⟩ := rc_cells (H.out.2.1.rng i (by omega))
      have hprev := H.out.2.2.1.row (m - 1) (by omega)
      have hpthr := H.out.2.2.1.cellsAt.thr (m - 1) (by omega)
      rw [Nat.zero_add] at hprev hpthr
      obtain ⟨cp0, cp1, cp2, cp3, cp4, cp5, cp6, cp7, cp8, cp9⟩ := rc_cells hprev
      obtain ⟨fp0, fp1, fp2, fp3, fp4, fp5, fp6, fp7, fp8, fp9⟩ := rc_frozen hpthr
      clear hprev hpthr
      have or : okR (f (1 + i)) := OK (1 + i) (by omega)
      have op : okR (h (m - 1)) := H.out.2.2.2.can.ok (m - 1) (by omega)
      by_cases p : (h (m - 1)).2 + 1 = (f (1 + i)).1
      · go_wp2_with (first | (go_at_call 107; (with_reducible refine (k107 (f (1 + i)) or _).mono ?_); rintro e w' ⟨rfl, dd, oo, rfl⟩))
        refine wp_region_plus (by kernel_rfl) (by kernel_rfl) ?_
        repeat (go_big_quiet_step (first | (go_at_call 163; exact Calls.plus_of (k163e (h (m - 1)).2 (f (1 + i)).1 op.b or.a p _))))
        refine wpQuiet_nil ?_
        intro _ hq
        obtain ⟨⟨dq, oq⟩, rfl⟩ := hq
        go_wp2_with fail
        rw [setCells_ad]
        go_roundw
        case rel =>
          obtain ⟨H1, H2, H3, H4⟩ := H.out
          have HC : Chg (· = G) wr _ := Chg.setCells G (adL (f (1 + i)).2) ((m - 1) * 10 + 5) (Chg.refl _ wr) (fun _ => rfl)
          refine ⟨i + 1, m, cap, G, _, rfl, rfl, by omega, hGw, (((H1.setCells G _ _ (fun q => absurd q (by omega))).alloc _).plus _ _).plus _ _, (((H2.chg HC (by omega)).alloc _).plus _ _).plus _ _, (((H3.setTo' (m - 1) (by omega) _).alloc _).plus _ _).plus _ _, H4.longer' or hso (by omega) (by omega) (by have := or.le; omega)⟩
        case measure => simp [intOf]; omega
      · cases l1 : decide ((h (m - 1)).2 < (f (1 + i)).1)
        · cases l2 : decide ((h (m - 1)).2 < (f (1 + i)).2)
          · by_cases p1 : okK ((h (m - 1)).2 + 1)
            · rcases neK3 _ _ p1 or.a p with e1 | ⟨e1, e2⟩ | ⟨e1, e2, e3⟩
              all_goals
                go_wp2_with (first | (go_at_call 107; (with_reducible refine (k107 (f (1 + i)) or _).mono ?_); rintro e w' ⟨rfl, dd, oo, rfl⟩))
                refine wp_region_plus (by kernel_rfl) (by kernel_rfl) ?_
                repeat (go_big_quiet_step (first | (go_at_call 163; exact Calls.plus_of (k163 (h (m - 1)).2 op.b p1 _))))
                refine wpQuiet_nil ?_
                intro _ hq
                obtain ⟨⟨dq, oq⟩, rfl⟩ := hq
                go_wp2_with fail
                refine wp_region_plus (by kernel_rfl) (by kernel_rfl) ?_
                repeat (go_big_quiet_step (first | (go_at_call 102; exact Calls.plus_of (k102 (h (m - 1)).2 (f (1 + i)).1 op.b or.a _ l1 _))))
                refine wpQuiet_nil ?_
                intro _ hq
                obtain ⟨⟨dq, oq⟩, rfl⟩ := hq
                go_wp2_with fail
                refine wp_region_plus (by kernel_rfl) (by kernel_rfl) ?_
                repeat (go_big_quiet_step (first | (go_at_call 102; exact Calls.plus_of (k102 (h (m - 1)).2 (f (1 + i)).2 op.b or.b _ l2 _))))
                refine wpQuiet_nil ?_
                intro _ hq
                obtain ⟨⟨dq, oq⟩, rfl⟩ := hq
                go_wp2_with fail
                go_roundw
                case rel =>
                  obtain ⟨H1, H2, H3, H4⟩ := H.out
                  exact ⟨i + 1, m, cap, G, h, rfl, rfl, by omega, hGw, (((((H1.alloc _).plus _ _).plus _ _).plus _ _).plus _ _), (((((H2.alloc _).plus _ _).plus _ _).plus _ _).plus _ _), (((((H3.alloc _).plus _ _).plus _ _).plus _ _).plus _ _), H4.skip' hso (by omega) (by simp only [decide_eq_false_iff_not, decide_eq_true_eq] at l1 l2; omega)⟩
                case measure => simp [intOf]; omega
            · go_wp2_with (first | (go_at_call 107; (with_reducible refine (k107 (f (1 + i)) or _).mono ?_); rintro e w' ⟨rfl, dd, oo, rfl⟩))
              refine wp_region_plus (by kernel_rfl) (by kernel_rfl) ?_
              repeat (go_big_quiet_step (first | (go_at_call 163; exact Calls.plus_of (k163z (h (m - 1)).2 op.b p1 _))))
              refine wpQuiet_nil ?_
              intro _ hq
              obtain ⟨⟨dq, oq⟩, rfl⟩ := hq
              go_wp2_with fail
              refine wp_region_plus (by kernel_rfl) (by kernel_rfl) ?_
              repeat (go_big_quiet_step (first | (go_at_call 102; exact Calls.plus_of (k102 (h (m - 1)).2 (f (1 + i)).1 op.b or.a _ l1 _))))
              refine wpQuiet_nil ?_
              intro _ hq
              obtain ⟨⟨dq, oq⟩, rfl⟩ := hq
              go_wp2_with fail
              refine wp_region_plus (by kernel_rfl) (by kernel_rfl) ?_
              repeat (go_big_quiet_step (first | (go_at_call 102; exact Calls.plus_of (k102 (h (m - 1)).2 (f (1 + i)).2 op.b or.b _ l2 _))))
              refine wpQuiet_nil ?_
              intro _ hq
              obtain ⟨⟨dq, oq⟩, rfl⟩ := hq
              go_wp2_with fail
              go_roundw
              case rel =>
                obtain ⟨H1, H2, H3, H4⟩ := H.out
                exact ⟨i + 1, m, cap, G, h, rfl, rfl, by omega, hGw, (((((H1.alloc _).plus _ _).plus _ _).plus _ _).plus _ _), (((((H2.alloc _).plus _ _).plus _ _).plus _ _).plus _ _), (((((H3.alloc _).plus _ _).plus _ _).plus _ _).plus _ _), H4.skip' hso (by omega) (by simp only [decide_eq_false_iff_not, decide_eq_true_eq] at l1 l2; omega)⟩
              case measure => simp [intOf]; omega
          · by_cases p1 : okK ((h (m - 1)).2 + 1)
            · rcases neK3 _ _ p1 or.a p with e1 | ⟨e1, e2⟩ | ⟨e1, e2, e3⟩
              all_goals
                go_wp2_with (first | (go_at_call 107; (with_reducible refine (k107 (f (1 + i)) or _).mono ?_); rintro e w' ⟨rfl, dd, oo, rfl⟩))
                refine wp_region_plus (by kernel_rfl) (by kernel_rfl) ?_
                repeat (go_big_quiet_step (first | (go_at_call 163; exact Calls.plus_of (k163 (h (m - 1)).2 op.b p1 _))))
                refine wpQuiet_nil ?_
                intro _ hq
                obtain ⟨⟨dq, oq⟩, rfl⟩ := hq
                go_wp2_with fail
                refine wp_region_plus (by kernel_rfl) (by kernel_rfl) ?_
                repeat (go_big_quiet_step (first | (go_at_call 102; exact Calls.plus_of (k102 (h (m - 1)).2 (f (1 + i)).1 op.b or.a _ l1 _))))
                refine wpQuiet_nil ?_
                intro _ hq
                obtain ⟨⟨dq, oq⟩, rfl⟩ := hq
                go_wp2_with fail
                refine wp_region_plus (by kernel_rfl) (by kernel_rfl) ?_
                repeat (go_big_quiet_step (first | (go_at_call 102; exact Calls.plus_of (k102 (h (m - 1)).2 (f (1 + i)).2 op.b or.b _ l2 _))))
                refine wpQuiet_nil ?_
                intro _ hq
                obtain ⟨⟨dq, oq⟩, rfl⟩ := hq
                go_wp2_with fail
                rw [setCells_ad]
                go_roundw
                case rel =>
                  obtain ⟨H1, H2, H3, H4⟩ := H.out
                  have HC : Chg (· = G) wr _ := Chg.setCells G (adL (f (1 + i)).2) ((m - 1) * 10 + 5) (Chg.refl _ wr) (fun _ => rfl)
                  exact ⟨i + 1, m, cap, G, _, rfl, rfl, by omega, hGw, ((((((H1.setCells G _ _ (fun q => absurd q (by omega))).alloc _).plus _ _).plus _ _).plus _ _).plus _ _), ((((((H2.chg HC (by omega)).alloc _).plus _ _).plus _ _).plus _ _).plus _ _), ((((((H3.setTo' (m - 1) (by omega) _).alloc _).plus _ _).plus _ _).plus _ _).plus _ _), H4.longer' or hso (by omega) (by simp only [decide_eq_false_iff_not, decide_eq_true_eq] at l1 l2; omega) (by simp only [decide_eq_false_iff_not, decide_eq_true_eq] at l1 l2; omega)⟩
                case measure => simp [intOf]; omega
            · go_wp2_with (first | (go_at_call 107; (with_reducible refine (k107 (f (1 + i)) or _).mono ?_); rintro e w' ⟨rfl, dd, oo, rfl⟩))
              refine wp_region_plus (by kernel_rfl) (by kernel_rfl) ?_
              repeat (go_big_quiet_step (first | (go_at_call 163; exact Calls.plus_of (k163z (h (m - 1)).2 op.b p1 _))))
              refine wpQuiet_nil ?_
              intro _ hq
              obtain ⟨⟨dq, oq⟩, rfl⟩ := hq
              go_wp2_with fail
              refine wp_region_plus (by kernel_rfl) (by kernel_rfl) ?_
              repeat (go_big_quiet_step (first | (go_at_call 102; exact Calls.plus_of (k102 (h (m - 1)).2 (f (1 + i)).1 op.b or.a _ l1 _))))
              refine wpQuiet_nil ?_
              intro _ hq
              obtain ⟨⟨dq, oq⟩, rfl⟩ := hq
              go_wp2_with fail
              refine wp_region_plus (by kernel_rfl) (by kernel_rfl) ?_
              repeat (go_big_quiet_step (first | (go_at_call 102; exact Calls.plus_of (k102 (h (m - 1)).2 (f (1 + i)).2 op.b or.b _ l2 _))))
              refine wpQuiet_nil ?_
              intro _ hq
              obtain ⟨⟨dq, oq⟩, rfl⟩ := hq
              go_wp2_with fail
              rw [setCells_ad]
              go_roundw
              case rel =>
                obtain ⟨H1, H2, H3, H4⟩ := H.out
                have HC : Chg (· = G) wr _ := Chg.setCells G (adL (f (1 + i)).2) ((m - 1) * 10 + 5) (Chg.refl _ wr) (fun _ => rfl)
                exact ⟨i + 1, m, cap, G, _, rfl, rfl, by omega, hGw, ((((((H1.setCells G _ _ (fun q => absurd q (by omega))).alloc _).plus _ _).plus _ _).plus _ _).plus _ _), ((((((H2.chg HC (by omega)).alloc _).plus _ _).plus _ _).plus _ _).plus _ _), ((((((H3.setTo' (m - 1) (by omega) _).alloc _).plus _ _).plus _ _).plus _ _).plus _ _), H4.longer' or hso (by omega) (by simp only [decide_eq_false_iff_not, decide_eq_true_eq] at l1 l2; omega) (by simp only [decide_eq_false_iff_not, decide_eq_true_eq] at l1 l2; omega)⟩
              case measure => simp [intOf]; omega
        · by_cases p1 : okK ((h (m - 1)).2 + 1)
          · rcases neK3 _ _ p1 or.a p with e1 | ⟨e1, e2⟩ | ⟨e1, e2, e3⟩
            all_goals
              go_wp2_with (first | (go_at_call 107; (with_reducible refine (k107 (f (1 + i)) or _).mono ?_); rintro e w' ⟨rfl, dd, oo, rfl⟩))
              refine wp_region_plus (by kernel_rfl) (by kernel_rfl) ?_
              repeat (go_big_quiet_step (first | (go_at_call 163; exact Calls.plus_of (k163 (h (m - 1)).2 op.b p1 _))))
              refine wpQuiet_nil ?_
              intro _ hq
              obtain ⟨⟨dq, oq⟩, rfl⟩ := hq
              go_wp2_with fail
              refine wp_region_plus (by kernel_rfl) (by kernel_rfl) ?_
              repeat (go_big_quiet_step (first | (go_at_call 102; exact Calls.plus_of (k102 (h (m - 1)).2 (f (1 + i)).1 op.b or.a _ l1 _))))
              refine wpQuiet_nil ?_
              intro _ hq
              obtain ⟨⟨dq, oq⟩, rfl⟩ := hq
              go_wp2_with (first | (at_builtin; refine app80 rfl _ _ rfl (.slice (some ⟨G, 0, none⟩) m cap) m h rfl ?hown _ 0 1 1 (fun _ => f (1 + i)) rfl ?hr ?sz ?_))
              case hown => exact .inr ⟨G, cap, rfl, ((((H.out.2.2.1.alloc _).plus _ _).plus _ _).plus _ _).alloc _⟩
              case hr =>
                intro i1 hi1
                rw [show i1 = 0 by omega]
                exact rangeAt_new _ _ _ (by simp)
              case sz => omega
              intro v' w' hO' hg' hat
              clear ca0 ca1 ca2 ca3 ca4 ca5 ca6 ca7 ca8 ca9 cp0 cp1 cp2 cp3 cp4 cp5 cp6 cp7 cp8 cp9 fp0 fp1 fp2 fp3 fp4 fp5 fp6 fp7 fp8 fp9
              obtain ⟨H1, H2, H3, H4⟩ := H.out
              have Q1 : Hid (Chg (· = g) w w') := (((((H1.alloc _).plus _ _).plus _ _).plus _ _).alloc _).grown hg' (fun k hk hlt => by simp only [Value.ownBlock, Option.some.injEq] at hk; omega)
              have Q2 : Hid (RowAt w' g (o + 10) (n - 1) (fun i => f (1 + i))) := (((((H2.alloc _).plus _ _).plus _ _).plus _ _).alloc _).chg (F := (· = G)) ((Chg.refl _ _).grown hg' (fun k hk _ => by simp only [Value.ownBlock, Option.some.injEq] at hk; exact hk.symm)) (by omega)
              have Q3 : Hid (MrgI (i + 1 + 1) f (m + 1) (fun j => if j < m then h j else (f (1 + i)))) := H4.more' or (by simp only [decide_eq_true_eq] at l1; omega)
              have Q4 : Hid (w.heap.size ≤ wr.heap.size) := H1.size
              clear H1 H2 H3 H4 H hg'
              rcases hO' with ⟨_, h0⟩ | ⟨G', cap', rfl, hO'⟩
              · omega
              have hG' : w.heap.size ≤ G' := by
                have := Q4.out
                rcases hat with hat | hat
                · simp only [Value.ownBlock, Option.some.injEq] at hat; omega
                · simp only [Value.ownBlock, Option.some.injEq] at hat; rw [hat]; simp; omega
              clear hat
              have HO : Hid (OwnR w' G' (m + 1) cap' (fun j => if j < m then h j else (f (1 + i)))) := hO'
              clear hO'
              go_wp2_with fail
              go_roundw
              case rel => exact ⟨i + 1, m + 1, cap', G', _, rfl, rfl, by omega, hG', Q1.out, Q2.out, HO.out, Q3.out⟩
              case measure => simp [intOf]; omega
          · go_wp2_with (first | (go_at_call 107; (with_reducible refine (k107 (f (1 + i)) or _).mono ?_); rintro e w' ⟨rfl, dd, oo, rfl⟩))
            refine wp_region_plus (by kernel_rfl) (by kernel_rfl) ?_
            repeat (go_big_quiet_step (first | (go_at_call 163; exact Calls.plus_of (k163z (h (m - 1)).2 op.b p1 _))))
            refine wpQuiet_nil ?_
            intro _ hq
            obtain ⟨⟨dq, oq⟩, rfl⟩ := hq
            go_wp2_with fail
            refine wp_region_plus (by kernel_rfl) (by kernel_rfl) ?_
            repeat (go_big_quiet_step (first | (go_at_call 102; exact Calls.plus_of (k102 (h (m - 1)).2 (f (1 + i)).1 op.b or.a _ l1 _))))
            refine wpQuiet_nil ?_
            intro _ hq
            obtain ⟨⟨dq, oq⟩, rfl⟩ := hq
            go_wp2_with (first | (at_builtin; refine app80 rfl _ _ rfl (.slice (some ⟨G, 0, none⟩) m cap) m h rfl ?hown _ 0 1 1 (fun _ => f (1 + i)) rfl ?hr ?sz ?_))
            case hown => exact .inr ⟨G, cap, rfl, ((((H.out.2.2.1.alloc _).plus _ _).plus _ _).plus _ _).alloc _⟩
            case hr =>
              intro i1 hi1
              rw [show i1 = 0 by omega]
              exact rangeAt_new _ _ _ (by simp)
            case sz => omega
            intro v' w' hO' hg' hat
            clear ca0 ca1 ca2 ca3 ca4 ca5 ca6 ca7 ca8 ca9 cp0 cp1 cp2 cp3 cp4 cp5 cp6 cp7 cp8 cp9 fp0 fp1 fp2 fp3 fp4 fp5 fp6 fp7 fp8 fp9
            obtain ⟨H1, H2, H3, H4⟩ := H.out
            have Q1 : Hid (Chg (· = g) w w') := (((((H1.alloc _).plus _ _).plus _ _).plus _ _).alloc _).grown hg' (fun k hk hlt => by simp only [Value.ownBlock, Option.some.injEq] at hk; omega)
            have Q2 : Hid (RowAt w' g (o + 10) (n - 1) (fun i => f (1 + i))) := (((((H2.alloc _).plus _ _).plus _ _).plus _ _).alloc _).chg (F := (· = G)) ((Chg.refl _ _).grown hg' (fun k hk _ => by simp only [Value.ownBlock, Option.some.injEq] at hk; exact hk.symm)) (by omega)
            have Q3 : Hid (MrgI (i + 1 + 1) f (m + 1) (fun j => if j < m then h j else (f (1 + i)))) := H4.more' or (by simp only [decide_eq_true_eq] at l1; omega)
            have Q4 : Hid (w.heap.size ≤ wr.heap.size) := H1.size
            clear H1 H2 H3 H4 H hg'
            rcases hO' with ⟨_, h0⟩ | ⟨G', cap', rfl, hO'⟩
            · omega
            have hG' : w.heap.size ≤ G' := by
              have := Q4.out
              rcases hat with hat | hat
              · simp only [Value.ownBlock, Option.some.injEq] at hat; omega
              · simp only [Value.ownBlock, Option.some.injEq] at hat; rw [hat]; simp; omega
            clear hat
            have HO : Hid (OwnR w' G' (m + 1) cap' (fun j => if j < m then h j else (f (1 + i)))) := hO'
            clear hO'
            go_wp2_with fail
            go_roundw
            case rel => exact ⟨i + 1, m + 1, cap', G', _, rfl, rfl, by omega, hG', Q1.out, Q2.out, HO.out, Q3.out⟩
            case measure => simp [intOf]; omega
    · go_wp2_with fail
      obtain ⟨H1, H2, H3, H4⟩ := H.out
      exact bodyPost_ret (v := .tuple #[.slice (some ⟨G, 0, none⟩) m cap, .bool true]) (by simp [results, Tryz.results159, go_sem]) rfl ⟨G, m, cap, h, rfl, H1, hGw, H3, H4.can, fun k => (H4.mem k).trans (by rw [show i + 1 = n by omega]; exact hsm.mem k), H4.pos, by have := H4.le; omega⟩
theorem ownR_new (W : World) (r : Nat × Nat) : OwnR (W.alloc (.cells #[.int .u64 (hK r.1), .int .u64 (lK r.1), .bool true, .bool (sK r.1), .string ⟨#[]⟩, .int .u64 (hK r.2), .int .u64 (lK r.2), .bool true, .bool (sK r.2), .string ⟨#[]⟩] 80)) W.heap.size 1 1 (fun _ => r) :=
  ⟨⟨_, heap_alloc_new W _, rfl⟩, Nat.le_refl _, by decide, fun i hi => by rw [show i = 0 by omega]; exact rangeAt_new W _ r rfl⟩
theorem c159 (g o n c : Nat) (f0 : Nat → Nat × Nat) (n1 : 1 ≤ n) (hn : n ≤ 100000000) (hc : n ≤ c) (w : World) (hr : RowAt w g o n f0) (hok : ∀ i, i < n → okR (f0 i)) :
    Calls Tryz.prog 159 #[.slice (some ⟨g, o, none⟩) n c] w fun e w' => ∃ (G m cap : Nat) (h : Nat → Nat × Nat), e = .returned (.tuple #[.slice (some ⟨G, 0, none⟩) m cap, .bool true]) ∧ Chg (· = g) w w' ∧ w.heap.size ≤ G ∧ OwnR w' G m cap h ∧ CanonR m h ∧ (∀ k, MemR m h k ↔ MemR n f0 k) ∧ 0 < m ∧ m ≤ n := by
  by_cases n2 : 2 ≤ n
  · exact x159 g o n c f0 n2 hn hc w hr hok
  · have hn1 : n = 1 := by omega
    subst hn1
    have hg : g < w.heap.size := hr.lt (by omega)
    have hrow0 := hr.rng 0 (by omega)
    rw [Nat.zero_mul, Nat.add_zero] at hrow0
    obtain ⟨ca0, ca1, ca2, ca3, ca4, ca5, ca6, ca7, ca8, ca9⟩ := rc_cells hrow0
    clear hrow0
    go_enter Tryz.func159, Tryz.ntmps159
    go_wp2_with fail
    refine bodyPost_ret (v := .tuple #[.slice (some ⟨w.heap.size, 0, none⟩) 1 1, .bool true]) (by simp [results, Tryz.results159, go_sem]) rfl ⟨w.heap.size, 1, 1, fun _ => f0 0, rfl, (Chg.refl _ w).alloc _, Nat.le_refl _, ownR_new w (f0 0), ⟨fun i hi => hok 0 (by omega), fun i hi => by omega⟩, fun k => MemR_congr (fun i hi => by rw [show i = 0 by omega]) k, by omega, by omega⟩
theorem c159_0 (p : Option Addr) (c : Nat) (w : World) : Calls Tryz.prog 159 #[.slice p 0 c] w fun e w' => e = .returned (.tuple #[.slice none 0 0, .bool true]) ∧ Plus w w' := by
  go_enter Tryz.func159, Tryz.ntmps159
  go_wp2_with fail
  exact bodyPost_ret (v := .tuple #[.slice none 0 0, .bool true]) (by simp [results, Tryz.results159, go_sem]) rfl ⟨rfl, by repeat (first | exact Plus.refl _ | refine Plus.alloc ?_ _ | refine Plus.plus ?_ _ _ | refine Plus.drew ?_ | refine Plus.drewN ?_ _)⟩
end Go.Proofs.YtmoabfpdlbngeaaGreatDoor
end
