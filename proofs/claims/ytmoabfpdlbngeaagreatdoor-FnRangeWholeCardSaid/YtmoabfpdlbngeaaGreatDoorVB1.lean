/-
  Part of the proofs on the laws of pub-addresssets: joined texts (B1, G, B2).
-/
import Derived.Test.YtmoabfpdlbngeaaGreatDoorVN3
import Derived.Deep.RegionLaw
section
namespace Go.Proofs.YtmoabfpdlbngeaaGreatDoor
open Go.RowKit
set_option maxHeartbeats 400000
set_option linter.unusedVariables false
set_option linter.unusedSimpArgs false
def Fresh (w : World) (v v' : Value) : Prop := v'.ownBlock = v.ownBlock ∨ ∃ k, v'.ownBlock = some k ∧ w.heap.size ≤ k
/-- What is to go out is told anew. -/
theorem bldOut {w w' : World} {B : Nat} {vi vo : Value} {n : Nat} {f : Nat → Nat × Nat} {n' : Nat} {f' : Nat → Nat × Nat} (H : Bld w B vi vo n f n' f') (C : Chg (AtV vo) w w') {v : Value} {m : Nat} {h : Nat → Nat × Nat} (O : OwnV w' v m h) (ok : valR m h) (hat : Fresh w vo v) :
    Chg (fun k => k = B ∨ vo.ownBlock = some k) w (w'.setCell ⟨B, 1, none⟩ v) ∧ Bld (w'.setCell ⟨B, 1, none⟩ v) B vi v n f m h ∧ Fresh w vo v := by
  have hBlt : B < w.heap.size := (Array.getElem?_eq_some_iff.1 H.blk).1
  have hB : w'.heap[B]? = some (.cells #[vi, vo, .slice none 0 0] 129 (0, 0)) := (C.block B hBlt H.notB.2).trans H.blk
  have C2 : Chg (fun k => k = B) w' (w'.setCell ⟨B, 1, none⟩ v) := (Chg.refl (fun k => k = B) w').setCell ⟨B, 1, none⟩ v (fun _ => rfl)
  refine ⟨(C.mono (fun k _ q => .inr q)).trans ⟨C2.os, C2.tape, C2.output, C2.size, fun k hk hn => C2.block k hk (fun e => hn (.inl e))⟩, ⟨?_, ?_, ?_, H.oki, ok, ?_⟩, hat⟩
  · rw [setCell_eq_setRow w' B 1 _ 129 (0, 0) v hB, setRow_heap w' B _ _ 129 (0, 0) hB]
    rfl
  · exact (H.i.chg C (fun k e q => H.ne k e q)).chg C2 (fun k e q => H.notB.1 (by rw [e, q]))
  · refine O.chg C2 (fun k e q => ?_)
    rcases hat with q2 | ⟨k2, q2, q3⟩
    · exact H.notB.2 (by rw [← q2, e, q])
    · rw [q2] at e; simp only [Option.some.injEq] at e; omega
  · intro k e q
    rcases hat with q2 | ⟨k2, q2, q3⟩
    · exact H.ne k e (by rw [← q2, q])
    · have := H.i.lt e
      rw [q2] at q; simp only [Option.some.injEq] at q; omega
/-- What is to come in is told anew. -/
theorem bldIn {w w' : World} {B : Nat} {vi vo : Value} {n : Nat} {f : Nat → Nat × Nat} {n' : Nat} {f' : Nat → Nat × Nat} (H : Bld w B vi vo n f n' f') (C : Chg (AtV vi) w w') {v : Value} {m : Nat} {h : Nat → Nat × Nat} (O : OwnV w' v m h) (ok : valR m h) (hat : Fresh w vi v) :
    Chg (fun k => k = B ∨ vi.ownBlock = some k) w (w'.setCell ⟨B, 0, none⟩ v) ∧ Bld (w'.setCell ⟨B, 0, none⟩ v) B v vo m h n' f' ∧ Fresh w vi v := by
  have hBlt : B < w.heap.size := (Array.getElem?_eq_some_iff.1 H.blk).1
  have hB : w'.heap[B]? = some (.cells #[vi, vo, .slice none 0 0] 129 (0, 0)) := (C.block B hBlt H.notB.1).trans H.blk
  have C2 : Chg (fun k => k = B) w' (w'.setCell ⟨B, 0, none⟩ v) := (Chg.refl (fun k => k = B) w').setCell ⟨B, 0, none⟩ v (fun _ => rfl)
  refine ⟨(C.mono (fun k _ q => .inr q)).trans ⟨C2.os, C2.tape, C2.output, C2.size, fun k hk hn => C2.block k hk (fun e => hn (.inl e))⟩, ⟨?_, ?_, ?_, ok, H.oko, ?_⟩, hat⟩
  · rw [setCell_eq_setRow w' B 0 _ 129 (0, 0) v hB, setRow_heap w' B _ _ 129 (0, 0) hB]
    rfl
  · refine O.chg C2 (fun k e q => ?_)
    rcases hat with q2 | ⟨k2, q2, q3⟩
    · exact H.notB.1 (by rw [← q2, e, q])
    · rw [q2] at e; simp only [Option.some.injEq] at e; omega
  · exact (H.o.chg C (fun k e q => H.ne k q e)).chg C2 (fun k e q => H.notB.2 (by rw [e, q]))
  · intro k e q
    rcases hat with q2 | ⟨k2, q2, q3⟩
    · exact H.ne k (by rw [← q2, e]) q
    · have := H.o.lt q
      rw [q2] at e; simp only [Option.some.injEq] at e; omega
theorem valR.snoc {m : Nat} {h : Nat → Nat × Nat} (H : valR m h) {r : Nat × Nat} (o : okR r) : valR (m + 1) (snoc m h r) := fun i hi => by
  unfold Proofs.YtmoabfpdlbngeaaGreatDoor.snoc
  by_cases e : i < m
  · rw [if_pos e]; exact H i e
  · rw [if_neg e]; exact o
theorem OwnV.pos {w : World} {v : Value} {m : Nat} {h : Nat → Nat × Nat} (H : OwnV w v (m + 1) h) : ∃ G cap, v = .slice (some ⟨G, 0, none⟩) (m + 1) cap ∧ Hid (OwnR w G (m + 1) cap h) := by
  rcases H with ⟨_, h0⟩ | H
  · omega
  · exact H
theorem c73 (B : Nat) (vi vo : Value) (n : Nat) (f : Nat → Nat × Nat) (n' : Nat) (f' : Nat → Nat × Nat) (hn' : n' ≤ 100000000) (r : Nat × Nat) (or : okR r) (w : World) (H : Bld w B vi vo n f n' f') :
    Calls Tryz.prog 73 #[.pointer (some ⟨B, 0, none⟩), .agg #[.int .u64 (hK r.1), .int .u64 (lK r.1), .bool true, .bool (sK r.1), .string ⟨#[]⟩, .int .u64 (hK r.2), .int .u64 (lK r.2), .bool true, .bool (sK r.2), .string ⟨#[]⟩]] w fun e w' => e = .returned (.tuple #[]) ∧ ∃ vo', Chg (fun k => k = B ∨ vo.ownBlock = some k) w w' ∧ Bld w' B vi vo' n f (n' + 1) (snoc n' f' r) ∧ Fresh w vo vo' := by
  have HH : Hid _ := H
  obtain ⟨cB0, cB1, cB2, fB0, fB1, fB2⟩ := blkB H.blk
  have NB1 : Hid _ := H.notB.1
  have NB2 : Hid _ := H.notB.2
  have hBlt : B < w.heap.size := (Array.getElem?_eq_some_iff.1 H.blk).1
  clear H
  have hBs1 : ∀ k, B < w.heap.size + k := fun k => by omega
  have hBs2 : ∀ k l, B < w.heap.size + k + l := fun k l => by omega
  go_enter Tryz.func73, Tryz.ntmps73
  go_wp2_with (first | (go_at_call 107; (with_reducible refine (k107 r or _).mono ?_); rintro e w' ⟨rfl, dd, oo, rfl⟩))
  go_region_law (refine step_app80 rfl _ _ rfl vo n' f' rfl ?hown _ 0 1 1 (fun _ => r) rfl ?hr ?sz ?_; (case hown => exact HH.out.o.chg (F := fun _ => False) (by (repeat (with_reducible first | refine Chg.plus ?_ _ _ | refine Chg.alloc ?_ _ | refine Chg.drew ?_ | exact Chg.refl _ _))) (fun _ _ => id)); (case hr => intro i1 hi1; rw [show i1 = 0 by omega]; exact rangeAt_new _ _ r (by simp)); (case sz => omega); intro v' w' hO' hC' hat; have HCC : Hid (Chg (AtV vo) w w') := Chg.trans (by (repeat (with_reducible first | refine Chg.plus ?_ _ _ | refine Chg.alloc ?_ _ | refine Chg.drew ?_ | exact Chg.refl _ _))) hC'; clear hC'; obtain ⟨G', cap', rfl, hO2⟩ := hO'.out.pos; clear hO'; have hB' : w'.heap[B]? = some (.cells #[vi, vo, .slice none 0 0] 129 (0, 0)) := (HCC.out.block B hBlt NB2.out).trans HH.out.blk; obtain ⟨eB0, eB1, eB2, gB0, gB1, gB2⟩ := blkB hB'; have hBl' : B < w'.heap.size := (Array.getElem?_eq_some_iff.1 hB').1; clear hB')
  all_goals
    go_wp2_with fail
    go_end0
    refine ⟨rfl, _, bldOut HH.out HCC.out (.inr ⟨G', cap', rfl, hO2.out⟩) (HH.out.oko.snoc or) ?_⟩
    rcases hat.out with q | q
    · exact .inl q
    · exact .inr ⟨_, q, by simp; try omega⟩
end Go.Proofs.YtmoabfpdlbngeaaGreatDoor
end

section
set_option linter.unusedSimpArgs false
/- Rows of elements of any kind: read, owned whole, appended to. -/
namespace Go.Proofs.YtmoabfpdlbngeaaGreatDoor
open Go.RowKit
set_option linter.unusedVariables false
/-- How an element lies in cells. -/
structure Lay (α : Type) where
  L : α → List Value
  c : Nat
  len : ∀ a, (L a).length = c
  one : ∀ a, ∀ u ∈ L a, u.oneCell' = true
  pos : 0 < c
variable {α : Type} (D : Lay α) {E : TypeId} {w w' : World} {v : Value} {n m k : Nat} {f h : Nat → α}
def cellsD : Nat → (Nat → α) → List Value
  | 0, _ => []
  | m + 1, h => cellsD m h ++ D.L (h m)
theorem cellsD_len (m : Nat) (h : Nat → α) : (cellsD D m h).length = m * D.c := by
  induction m with
  | zero => rw [cellsD, Nat.zero_mul]; rfl
  | succ m ih => rw [cellsD, List.length_append, ih, D.len, Nat.add_mul, Nat.one_mul]
theorem cellsD_get (m : Nat) (h : Nat → α) (i k : Nat) (hi : i < m) (hk : k < D.c) : (cellsD D m h)[i * D.c + k]? = (D.L (h i))[k]? := by
  induction m with
  | zero => omega
  | succ m ih =>
    rw [cellsD]
    by_cases e : i = m
    · subst e
      rw [List.getElem?_append_right (by rw [cellsD_len]; omega), cellsD_len]
      congr 1; omega
    · have : (i + 1) * D.c ≤ m * D.c := Nat.mul_le_mul_right _ (by omega)
      rw [Nat.add_mul, Nat.one_mul] at this
      rw [List.getElem?_append_left (by rw [cellsD_len]; omega)]
      exact ih (by omega)
def appF (m : Nat) (h f : Nat → α) : Nat → α := fun j => if j < m then h j else f (j - m)
theorem cellsD_congr (m : Nat) (h f : Nat → α) (e : ∀ i, i < m → h i = f i) : cellsD D m h = cellsD D m f := by
  induction m with
  | zero => rfl
  | succ m ih => rw [cellsD, cellsD, ih (fun i hi => e i (by omega)), e m (by omega)]
theorem cellsD_append (m k : Nat) (h f : Nat → α) : cellsD D m h ++ cellsD D k f = cellsD D (m + k) (appF m h f) := by
  induction k with
  | zero =>
    rw [cellsD, List.append_nil, Nat.add_zero]
    exact cellsD_congr D m _ _ (fun i hi => by unfold appF; rw [if_pos hi])
  | succ k ih =>
    rw [cellsD, ← List.append_assoc, ih, ← Nat.add_assoc, cellsD]
    congr 2
    unfold appF
    rw [if_neg (by omega)]
    congr 1; omega
theorem cellsD_cell (m : Nat) (h : Nat → α) : ∀ u ∈ cellsD D m h, u.oneCell' = true := by
  induction m with
  | zero => intro u hu; simp [cellsD] at hu
  | succ m ih =>
    intro u hu
    rw [cellsD, List.mem_append] at hu
    rcases hu with hu | hu
    · exact ih u hu
    · exact D.one _ u hu
/-- Cell j of a row, by element and place. -/
theorem at_elem {c : Nat} (hc : 0 < c) {n j : Nat} (hj : j < n * c) : j / c < n ∧ j % c < c ∧ j = j / c * c + j % c := by
  refine ⟨(Nat.div_lt_iff_lt_mul hc).2 hj, Nat.mod_lt _ hc, ?_⟩
  have := Nat.div_add_mod j c
  rw [Nat.mul_comm] at this
  exact this.symm
/-- The block G is such a row, of room for cap, its first m told by h. -/
structure OwnD (E : TypeId) (w : World) (G m cap : Nat) (h : Nat → α) : Prop where
  blk : ∃ cur, w.heap[G]? = some (.cells cur E (0, 0)) ∧ cur.size = cap * D.c
  le : m ≤ cap
  mx : cap ≤ maxLen
  row : ∀ i, i < m → w.rangeAt G (0 + i * D.c) (D.L (h i))
def OwnDV (E : TypeId) (w : World) (v : Value) (m : Nat) (h : Nat → α) : Prop := (v = .slice none 0 0 ∧ m = 0) ∨ ∃ G cap, v = .slice (some ⟨G, 0, none⟩) m cap ∧ OwnD D E w G m cap h
/-- The slice v reads as n elements, told by f. -/
def Rd (w : World) (v : Value) (n : Nat) (f : Nat → α) : Prop := ∃ p k, v = .slice p n k ∧ n ≤ k ∧ (0 < n → ∃ g o, p = some ⟨g, o, none⟩ ∧ ∀ i, i < n → w.rangeAt g (o + i * D.c) (D.L (f i)))
variable {D}
theorem OwnD.lt {G m cap : Nat} (H : OwnD D E w G m cap h) : G < w.heap.size := by
  obtain ⟨cur, hc, hs⟩ := H.blk
  exact (Array.getElem?_eq_some_iff.1 hc).1
theorem OwnD.owns {G m cap : Nat} (H : OwnD D E w G m cap h) : w.ownsRow 0 E D.c (.slice (some ⟨G, 0, none⟩) m cap) m (cellsD D m h) := by
  obtain ⟨cur, hc, hs⟩ := H.blk
  have hl := H.le
  have hl2 : m * D.c ≤ cap * D.c := Nat.mul_le_mul_right _ hl
  refine ⟨cellsD_len D m h, .inr ⟨G, cap, cur, rfl, Nat.zero_le _, hc, H.le, H.mx, hs, ?_⟩⟩
  apply List.ext_getElem?
  intro j
  by_cases hj : j < m * D.c
  · rw [List.getElem?_take_of_lt hj]
    obtain ⟨q1, q2, e⟩ := at_elem D.pos hj
    have hr := H.row (j / D.c) q1
    have hv : (D.L (h (j / D.c)))[j % D.c]? = some ((D.L (h (j / D.c)))[j % D.c]'(by rw [D.len]; exact q2)) := List.getElem?_eq_getElem _
    have := hr (j % D.c) _ hv
    rw [show (⟨G, 0 + j / D.c * D.c + j % D.c, none⟩ : Addr) = ⟨G, j, none⟩ by congr 1; omega, cell_of_row w G j cur E (0, 0) hc] at this
    have hc2 := cellsD_get D m h (j / D.c) (j % D.c) q1 q2
    rw [← e, hv] at hc2
    rw [Array.getElem?_toList, this, hc2]
  · rw [List.getElem?_eq_none (by simp; omega), List.getElem?_eq_none (by rw [cellsD_len]; omega)]
theorem OwnDV.owns (H : OwnDV D E w v m h) : w.ownsRow 0 E D.c v m (cellsD D m h) := by
  rcases H with ⟨rfl, rfl⟩ | ⟨G, cap, rfl, H⟩
  · exact World.ownsRow_nil _ _ _ _
  · exact H.owns
theorem OwnDV.of (H : w.ownsRow 0 E D.c v m (cellsD D m h)) : OwnDV D E w v m h := by
  rcases H.2 with ⟨hv, h0⟩ | ⟨G, cap, cur, hv, hb, hc, hle, hmx, hs, ht⟩
  · exact .inl ⟨hv, by omega⟩
  · refine .inr ⟨G, cap, hv, ⟨⟨cur, hc, hs⟩, hle, hmx, fun i hi k v hk => ?_⟩⟩
    have hk10 : k < D.c := by have := (List.getElem?_eq_some_iff.1 hk).1; rwa [D.len] at this
    have h2 : (i + 1) * D.c ≤ m * D.c := Nat.mul_le_mul_right _ (by omega)
    rw [Nat.add_mul, Nat.one_mul] at h2
    rw [cell_of_row w G _ cur E (0, 0) hc, ← hk, ← cellsD_get D m h i k hi hk10, ← ht, List.getElem?_take_of_lt (by omega), Array.getElem?_toList]
    congr 1; omega
theorem OwnDV.nil (h : Nat → α) : OwnDV D E w (.slice none 0 0) 0 h := .inl ⟨rfl, rfl⟩
theorem OwnDV.form (H : OwnDV D E w v m h) : ∃ p k, v = .slice p m k ∧ m ≤ k := by
  rcases H with ⟨rfl, rfl⟩ | ⟨G, cap, rfl, H⟩
  · exact ⟨_, _, rfl, Nat.le_refl _⟩
  · exact ⟨_, _, rfl, H.le⟩
theorem OwnDV.rd (H : OwnDV D E w v m h) : Rd D w v m h := by
  rcases H with ⟨rfl, rfl⟩ | ⟨G, cap, rfl, H⟩
  · exact ⟨_, _, rfl, Nat.le_refl _, fun q => by omega⟩
  · exact ⟨_, _, rfl, H.le, fun _ => ⟨G, 0, rfl, H.row⟩⟩
theorem OwnD.chg {F : Nat → Prop} {G m cap : Nat} (H : OwnD D E w G m cap h) (hc : Chg F w w') (hb : ¬ F G) : OwnD D E w' G m cap h := by
  have hlt := H.lt
  obtain ⟨cur, hcu, hs⟩ := H.blk
  exact ⟨⟨cur, (hc.block G hlt hb).trans hcu, hs⟩, H.le, H.mx, fun i hi => rangeAt_chg hc (H.row i hi) hb⟩
theorem OwnDV.chg {F : Nat → Prop} (H : OwnDV D E w v m h) (hc : Chg F w w') (hF : ∀ k, v.ownBlock = some k → ¬ F k) : OwnDV D E w' v m h := by
  rcases H with ⟨rfl, h⟩ | ⟨G, cap, rfl, H⟩
  · exact .inl ⟨rfl, h⟩
  · exact .inr ⟨G, cap, rfl, H.chg hc (hF G rfl)⟩
theorem OwnDV.lt (H : OwnDV D E w v m h) {k : Nat} (e : v.ownBlock = some k) : k < w.heap.size := by
  rcases H with ⟨rfl, _⟩ | ⟨G, cap, rfl, H⟩
  · simp [Value.ownBlock] at e
  · simp only [Value.ownBlock, Option.some.injEq] at e
    subst e
    exact H.lt
theorem OwnDV.ty (H : OwnDV D E w v m h) {k : Nat} (e : v.ownBlock = some k) : ∃ cur, w.heap[k]? = some (.cells cur E (0, 0)) := by
  rcases H with ⟨rfl, _⟩ | ⟨G, cap, rfl, H⟩
  · simp [Value.ownBlock] at e
  · simp only [Value.ownBlock, Option.some.injEq] at e
    subst e
    obtain ⟨cur, h, _⟩ := H.blk
    exact ⟨cur, h⟩
theorem OwnDV.congr (H : OwnDV D E w v m h) (e : ∀ i, i < m → h i = f i) : OwnDV D E w v m f := by
  rcases H with ⟨rfl, h⟩ | ⟨G, cap, rfl, H⟩
  · exact .inl ⟨rfl, h⟩
  · exact .inr ⟨G, cap, rfl, ⟨H.blk, H.le, H.mx, fun i hi => by rw [← e i hi]; exact H.row i hi⟩⟩
theorem Rd.nil (h : Nat → α) : Rd D w (.slice none 0 0) 0 h := ⟨_, _, rfl, Nat.le_refl _, fun q => by omega⟩
theorem Rd.chg0 (H : Rd D w v n f) (hc : Chg (fun _ => False) w w') : Rd D w' v n f := by
  obtain ⟨p, k, rfl, hk, hr⟩ := H
  refine ⟨p, k, rfl, hk, fun q => ?_⟩
  obtain ⟨g, o, e, hr⟩ := hr q
  exact ⟨g, o, e, fun i hi => rangeAt_chg hc (hr i hi) id⟩
theorem Rd.congr (H : Rd D w v n f) (e : ∀ i, i < n → f i = h i) : Rd D w v n h := by
  obtain ⟨p, k, rfl, hk, hr⟩ := H
  refine ⟨p, k, rfl, hk, fun q => ?_⟩
  obtain ⟨g, o, e2, hr⟩ := hr q
  exact ⟨g, o, e2, fun i hi => by rw [← e i hi]; exact hr i hi⟩
theorem Rd.plus (H : Rd D w v n f) (d : Nat) (os : Array Obj) : Rd D (w.plus d os) v n f := H.chg0 ((Chg.refl _ w).plus d os)
theorem Rd.alloc (H : Rd D w v n f) (ob : Obj) : Rd D (w.alloc ob) v n f := H.chg0 ((Chg.refl _ w).alloc ob)
theorem rangeAt_of (W : World) (B : Nat) (cs : Array Value) (E : TypeId) (h : W.heap[B]? = some (.cells cs E (0, 0))) (o : Nat) (l : List Value) (hl : ∀ j, j < l.length → cs[o + j]? = l[j]?) : W.rangeAt B o l := fun j v hv => by
  rw [cell_of_row W B _ cs E (0, 0) h, hl j (List.getElem?_eq_some_iff.1 hv).1, hv]
/-- A new block, laid whole. -/
theorem OwnDV.new (W : World) (cs : Array Value) (n : Nat) (f : Nat → α) (hcs : cs.toList = cellsD D n f) (hn : n ≤ 1000000000) : OwnDV D E (W.alloc (.cells cs E)) (.slice (some ⟨W.heap.size, 0, none⟩) n n) n f := by
  have hb : (W.alloc (.cells cs E)).heap[W.heap.size]? = some (.cells cs E (0, 0)) := heap_alloc_new W _
  have hl : cs.size = n * D.c := by rw [← cellsD_len D n f, ← hcs, Array.length_toList]
  refine .inr ⟨_, n, rfl, ⟨⟨cs, hb, hl⟩, Nat.le_refl _, by unfold maxLen; omega, fun i hi => rangeAt_of _ _ cs E hb _ _ fun j hj => ?_⟩⟩
  rw [D.len] at hj
  rw [← cellsD_get D n f i j hi hj, ← hcs, Array.getElem?_toList]
  congr 1; omega
theorem Rd.new (W : World) (cs : Array Value) (r : α) (hcs : cs.toList = D.L r) : Rd D (W.alloc (.cells cs E)) (.slice (some ⟨W.heap.size, 0, none⟩) 1 1) 1 (fun _ => r) :=
  (OwnDV.new (E := E) W cs 1 (fun _ => r) (by rw [hcs]; simp [cellsD]) (by omega)).rd
theorem cellsD_one {g o : Nat} (hr : ∀ i, i < k → w.rangeAt g (o + i * D.c) (D.L (f i))) : ∀ j u, (cellsD D k f)[j]? = some u → w.cell? ((⟨g, o, none⟩ : Addr).add j) = some u := fun j u hu => by
  have hj : j < k * D.c := by have := (List.getElem?_eq_some_iff.1 hu).1; rwa [cellsD_len] at this
  obtain ⟨q1, q2, e⟩ := at_elem D.pos hj
  rw [e, cellsD_get D k f _ _ q1 q2] at hu
  rw [Addr.add_mid, e, ← Nat.add_assoc]
  exact hr (j / D.c) q1 _ _ hu
/-- What the table of types says of an element type. -/
def InfoD (D : Lay α) (E : TypeId) (bytes : Nat) : Prop := ∃ i z, Tryz.prog.info? E = some i ∧ i.zero = some z ∧ i.size = D.c ∧ i.bytes = bytes ∧ z.cells.size = D.c
theorem InfoD.mk {bytes c : Nat} (hc : D.c = c) (h1 : (Tryz.prog.info? E).map (fun i => (i.size, i.bytes, i.zero.map (·.cells.size))) = some (c, bytes, some c)) : InfoD D E bytes := by
  cases hi : Tryz.prog.info? E with
  | none => rw [hi] at h1; cases h1
  | some i =>
    rw [hi] at h1
    simp only [Option.map_some, Option.some.injEq, Prod.mk.injEq] at h1
    obtain ⟨h1, h2, h3⟩ := h1
    cases hz : i.zero with
    | none => rw [hz] at h3; cases h3
    | some z =>
      rw [hz] at h3
      simp only [Option.map_some, Option.some.injEq] at h3
      exact ⟨i, z, hi, hz, by rw [h1, hc], h2, by rw [h3, hc]⟩
theorem run_append_none (t ty : TypeId) (bytes : Nat) (I : InfoD D E bytes) (ht : Tryz.prog.underlying t = some (.slice E)) (H : OwnDV D E w v m h) (c : Nat) : (Builtin.append_ #[t, t] ty #[v, .slice none 0 c]).run Tryz.prog w = .ok v w := by
  obtain ⟨i, z, hi, _⟩ := I
  rcases H with ⟨rfl, _⟩ | ⟨G, cap, rfl, H⟩
  · simp [Builtin.append_, run_underlying ht, sizeOf, typeInfo, hi, Builtin.lenOf, Builtin.firstCells]
  · have := H.le
    simp [Builtin.append_, run_underlying ht, sizeOf, typeInfo, hi, Builtin.lenOf, Builtin.firstCells, this, storeCells]
/-- APPEND: a row owned, a row read. -/
theorem run_appendD (t ty : TypeId) (bytes : Nat) (I : InfoD D E bytes) (ht : Tryz.prog.underlying t = some (.slice E)) (hby : bytes ≤ 1000) (H : OwnDV D E w v m h) (x : Value) (hr : Rd D w x k f) (hsz : m + k ≤ 1000000000) :
    ∃ v' w', (Builtin.append_ #[t, t] ty #[v, x]).run Tryz.prog w = .ok v' w' ∧ OwnDV D E w' v' (m + k) (appF m h f) ∧ w.grownBy w' v.ownBlock ∧ (v'.ownBlock = v.ownBlock ∨ v'.ownBlock = some w.heap.size) := by
  obtain ⟨p, c, rfl, hkc, hr⟩ := hr
  rcases Nat.eq_zero_or_pos k with h0 | h0
  · subst h0
    rcases p with _ | ad
    · exact ⟨v, w, run_append_none t ty bytes I ht H c, H.congr (fun i hi => by unfold appF; rw [if_pos hi]), World.grownBy.refl w _, .inl rfl⟩
    · obtain ⟨i, z, hi, hz, h1, h2, h3⟩ := I
      obtain ⟨v', w', hrun, ho, hg, _, h5⟩ := run_append_own_at (P := Tryz.prog) w 0 t ty E i z D.c bytes ht hi hz h1 h2 h3 D.pos v m (cellsD D m h) H.owns ad 0 c [] (by simp) (by intro j u hu; simp at hu) (by intro u hu; cases hu) (by unfold maxLen; omega) (by have : (m + 0) * bytes ≤ 1000000000 * 1000 := Nat.mul_le_mul hsz hby; omega) (Nat.zero_le _)
      rw [List.append_nil] at ho
      exact ⟨v', w', hrun, (OwnDV.of (by simpa using ho) : OwnDV D E w' v' m h).congr (fun i hi => by unfold appF; rw [if_pos hi]), hg, h5⟩
  · obtain ⟨g, o, rfl, hr2⟩ := hr h0
    clear hr
    obtain ⟨i, z, hi, hz, h1, h2, h3⟩ := I
    obtain ⟨v', w', hrun, ho, hg, _, h5⟩ := run_append_own_at (P := Tryz.prog) w 0 t ty E i z D.c bytes ht hi hz h1 h2 h3 D.pos v m (cellsD D m h) H.owns ⟨g, o, none⟩ k c (cellsD D k f) (cellsD_len D k f) (cellsD_one hr2) (cellsD_cell D k f) (by unfold maxLen; omega) (by have : (m + k) * bytes ≤ 1000000000 * 1000 := Nat.mul_le_mul hsz hby; omega) (Nat.zero_le _)
    rw [cellsD_append] at ho
    exact ⟨v', w', hrun, .of ho, hg, h5⟩
theorem wp_appendD {o : Oper} {a : Act} {K : Act → World → Prop} {Q : Exit → Act → World → Prop} (s x : Operand) (t : TypeId) (bytes : Nat) (I : InfoD D E bytes) (ht : Tryz.prog.underlying t = some (.slice E)) (hby : bytes ≤ 1000)
    (ho : o.op = .call { callee := .builtin .append, args := #[s, x], argTypes := #[t, t] })
    (v : Value) (m : Nat) (h : Nat → α) (hs : a.eval s = v) (H : OwnDV D E w v m h) (k : Nat) (f : Nat → α) (hr : Rd D w (a.eval x) k f) (hsz : m + k ≤ 1000000000)
    (hK : ∀ p c w', Hid (OwnDV D E w' (.slice p (m + k) c) (m + k) (appF m h f)) → Chg (AtV v) w w' → Hid ((Value.slice p (m + k) c).ownBlock = v.ownBlock ∨ (Value.slice p (m + k) c).ownBlock = some w.heap.size) → K (a.put o.dst (.slice p (m + k) c)) w') : o.wp Tryz.prog a w K Q := by
  obtain ⟨v', w', hrun, h2, h3, h4⟩ := run_appendD t o.type bytes I ht hby H _ hr hsz
  obtain ⟨p, c, rfl, _⟩ := h2.form
  unfold Oper.wp execOp
  simp only [ho, resolve, invoke, builtin, Sem.run_bind, Sem.run_pure, Result.andThen_ok, List.map_toArray, List.map_cons, List.map_nil, hs, hrun]
  exact hK p c w' h2 ((Chg.refl _ w).grown h3 (fun k e _ => e)) h4
theorem appD {ops : Array Oper} {rest : List Oper} {o : Oper} {a : Act} {Q : Exit → Act → World → Prop} (hgd : o.guard = none) (s x : Operand) (t : TypeId) (bytes : Nat) (I : InfoD D E bytes) (ht : Tryz.prog.underlying t = some (.slice E)) (hby : bytes ≤ 1000)
    (ho : o.op = .call { callee := .builtin .append, args := #[s, x], argTypes := #[t, t] })
    (v : Value) (m : Nat) (h : Nat → α) (hs : a.eval s = v) (H : OwnDV D E w v m h) (k : Nat) (f : Nat → α) (hr : Rd D w (a.eval x) k f) (hsz : m + k ≤ 1000000000)
    (hK : ∀ p c w', Hid (OwnDV D E w' (.slice p (m + k) c) (m + k) (appF m h f)) → Chg (AtV v) w w' → Hid ((Value.slice p (m + k) c).ownBlock = v.ownBlock ∨ (Value.slice p (m + k) c).ownBlock = some w.heap.size) → wpList Tryz.prog ops Q rest (a.put o.dst (.slice p (m + k) c)) w') : wpList Tryz.prog ops Q (o :: rest) a w :=
  wpList_plain hgd fun _ hK' => wp_appendD s x t bytes I ht hby ho v m h hs H k f hr hsz fun p c w' h1 h2 h3 => hK' _ _ (hK p c w' h1 h2 h3)
theorem stepD {ops : Array Oper} {o : Oper} {a : Act} {K : Act → World → Prop} {Q : Exit → Act → World → Prop} {X : Prop} (hgd : o.guard = none) (s x : Operand) (t : TypeId) (bytes : Nat) (I : InfoD D E bytes) (ht : Tryz.prog.underlying t = some (.slice E)) (hby : bytes ≤ 1000)
    (ho : o.op = .call { callee := .builtin .append, args := #[s, x], argTypes := #[t, t] })
    (v : Value) (m : Nat) (h : Nat → α) (hs : a.eval s = v) (H : OwnDV D E w v m h) (k : Nat) (f : Nat → α) (hr : Rd D w (a.eval x) k f) (hsz : m + k ≤ 1000000000)
    (hK : ∀ p c w', Hid (OwnDV D E w' (.slice p (m + k) c) (m + k) (appF m h f)) → Chg (AtV v) w w' → Hid ((Value.slice p (m + k) c).ownBlock = v.ownBlock ∨ (Value.slice p (m + k) c).ownBlock = some w.heap.size) → K (a.put o.dst (.slice p (m + k) c)) w') :
    if Region.wanted o (yielded ops a.tmps) = true then Oper.wp Tryz.prog o a w K Q else X := by
  have hw : Region.wanted o (yielded ops a.tmps) = true := by simp [Region.wanted, hgd]
  rw [if_pos hw]
  exact wp_appendD s x t bytes I ht hby ho v m h hs H k f hr hsz hK
/-- The ranges of the netipx package, as such rows. -/
def layR : Lay (Nat × Nat) := ⟨rcL, 10, rcL_len, fun a u hu => by
  simp only [rcL, List.mem_cons, List.not_mem_nil, or_false] at hu
  rcases hu with rfl | rfl | rfl | rfl | rfl | rfl | rfl | rfl | rfl | rfl <;> simp [Value.oneCell'], by omega⟩
theorem own_to {w : World} {v : Value} {m : Nat} {h : Nat → Nat × Nat} (H : OwnV w v m h) : OwnDV layR 80 w v m h := by
  rcases H with ⟨rfl, h⟩ | ⟨G, cap, rfl, H⟩
  · exact .inl ⟨rfl, h⟩
  · exact .inr ⟨G, cap, rfl, ⟨H.blk, H.le, H.mx, H.row⟩⟩
theorem own_from {w : World} {v : Value} {m : Nat} {h : Nat → Nat × Nat} (H : OwnDV layR 80 w v m h) : OwnV w v m h := by
  rcases H with ⟨rfl, h⟩ | ⟨G, cap, rfl, H⟩
  · exact .inl ⟨rfl, h⟩
  · exact .inr ⟨G, cap, rfl, ⟨H.blk, H.le, H.mx, H.row⟩⟩
theorem infoR : InfoD layR 80 80 := InfoD.mk (c := 10) rfl (by kernel_rfl)
end Go.Proofs.YtmoabfpdlbngeaaGreatDoor
end

section
namespace Go.Proofs.YtmoabfpdlbngeaaGreatDoor
open Go.RowKit
set_option maxHeartbeats 400000
set_option linter.unusedVariables false
set_option linter.unusedSimpArgs false
theorem OwnV.form {w : World} {v : Value} {m : Nat} {h : Nat → Nat × Nat} (H : OwnV w v m h) : ∃ p c, v = .slice p m c := by
  rcases H with ⟨rfl, rfl⟩ | ⟨G, cap, rfl, H⟩
  · exact ⟨_, _, rfl⟩
  · exact ⟨_, _, rfl⟩
/-- From w to w' turned: the builder's block, its two rows, and new blocks. -/
structure Moved (w w' : World) (B : Nat) (vi vo vi' vo' : Value) : Prop where
  chg : Chg (fun k => k = B ∨ vi.ownBlock = some k ∨ vo.ownBlock = some k) w w'
  own : ∀ k, (vi'.ownBlock = some k ∨ vo'.ownBlock = some k) → (vi.ownBlock = some k ∨ vo.ownBlock = some k) ∨ w.heap.size ≤ k
theorem Moved.trans {w w1 w2 : World} {B : Nat} {v1 v2 v3 v4 v5 v6 : Value} (A : Moved w w1 B v1 v2 v3 v4) (C : Moved w1 w2 B v3 v4 v5 v6) : Moved w w2 B v1 v2 v5 v6 := by
  refine ⟨⟨C.chg.os.trans A.chg.os, C.chg.tape.trans A.chg.tape, C.chg.output.trans A.chg.output, Nat.le_trans A.chg.size C.chg.size, fun k hk hn => ?_⟩, fun k hk => ?_⟩
  · refine (C.chg.block k (Nat.lt_of_lt_of_le hk A.chg.size) (fun q => ?_)).trans (A.chg.block k hk hn)
    rcases q with q | q
    · exact hn (.inl q)
    · rcases A.own k q with q | q
      · exact hn (.inr q)
      · omega
  · rcases C.own k hk with q | q
    · exact A.own k q
    · exact .inr (Nat.le_trans A.chg.size q)
theorem Moved.refl (w : World) (B : Nat) (vi vo : Value) : Moved w w B vi vo vi vo := ⟨.refl _ w, fun k q => .inl q⟩
/-- A builder of the set S, at most N ranges long. -/
def Bs (w : World) (B : Nat) (vi vo : Value) (N : Nat) (S : Nat → Prop) : Prop := ∃ n f n' f', Bld w B vi vo n f n' f' ∧ n + n' ≤ N ∧ ∀ k, S k ↔ MemR n f k ∧ ¬ MemR n' f' k
/-- What a step of a builder leaves. -/
def Stp (w : World) (B : Nat) (vi vo : Value) (N : Nat) (S : Nat → Prop) (w' : World) : Prop := ∃ vi' vo', Moved w w' B vi vo vi' vo' ∧ Bs w' B vi' vo' N S
theorem Bs.congr {w : World} {B : Nat} {vi vo : Value} {N N' : Nat} {S S' : Nat → Prop} (H : Bs w B vi vo N S) (hN : N ≤ N') (hS : ∀ k, S k ↔ S' k) : Bs w B vi vo N' S' := by
  obtain ⟨n, f, n', f', a, b, c⟩ := H
  exact ⟨n, f, n', f', a, by omega, fun k => (hS k).symm.trans (c k)⟩
theorem mvIn {w w' : World} {B : Nat} {vi vo v : Value} (C : Chg (fun k => k = B ∨ vi.ownBlock = some k) w w') (F : Fresh w vi v) : Moved w w' B vi vo v vo :=
  ⟨C.mono fun k _ q => q.elim .inl fun q => .inr (.inl q), fun k q => by
    rcases q with q | q
    · rcases F with e | ⟨k', e, l⟩
      · exact .inl (.inl (by rw [← e]; exact q))
      · rw [e] at q; simp only [Option.some.injEq] at q; exact .inr (by omega)
    · exact .inl (.inr q)⟩
theorem mvOut {w w' : World} {B : Nat} {vi vo v : Value} (C : Chg (fun k => k = B ∨ vo.ownBlock = some k) w w') (F : Fresh w vo v) : Moved w w' B vi vo vi v :=
  ⟨C.mono fun k _ q => q.elim .inl fun q => .inr (.inr q), fun k q => by
    rcases q with q | q
    · exact .inl (.inl q)
    · rcases F with e | ⟨k', e, l⟩
      · exact .inl (.inr (by rw [← e]; exact q))
      · rw [e] at q; simp only [Option.some.injEq] at q; exact .inr (by omega)⟩
theorem add_end {w w' : World} {B : Nat} {vi vo v : Value} {n : Nat} {f : Nat → Nat × Nat} {n' : Nat} {f' : Nat → Nat × Nat} {N : Nat} {S : Nat → Prop} {r : Nat × Nat} (n0 : n' = 0) (hN : n + n' ≤ N) (hS : ∀ k, S k ↔ MemR n f k ∧ ¬ MemR n' f' k)
    (Z : Chg (fun k => k = B ∨ vi.ownBlock = some k) w w' ∧ Bld w' B v vo (n + 1) (snoc n f r) n' f' ∧ Fresh w vi v) : Stp w B vi vo (N + 1) (fun k => S k ∨ (r.1 ≤ k ∧ k ≤ r.2)) w' := by
  refine ⟨v, vo, mvIn Z.1 Z.2.2, n + 1, snoc n f r, n', f', Z.2.1, by omega, fun k => ?_⟩
  have h0 : ¬ MemR n' f' k := by rw [n0]; exact fun ⟨i, hi, _⟩ => by omega
  show (S k ∨ _) ↔ _
  rw [hS k, MemR_snoc]
  simp only [h0, not_false_eq_true, and_true]

theorem Bld.chg0 {w w1 : World} {B : Nat} {vi vo : Value} {n : Nat} {f : Nat → Nat × Nat} {n' : Nat} {f' : Nat → Nat × Nat} (H : Bld w B vi vo n f n' f') (C : Chg (fun _ => False) w w1) : Bld w1 B vi vo n f n' f' :=
  ⟨(C.block B (Array.getElem?_eq_some_iff.1 H.blk).1 id).trans H.blk, H.i.chg C (fun _ _ => id), H.o.chg C (fun _ _ => id), H.oki, H.oko, H.ne⟩
theorem Stp.after {w w1 w2 : World} {B : Nat} {vi vo v1 v2 : Value} {N : Nat} {S : Nat → Prop} (A : Moved w w1 B vi vo v1 v2) (Z : Stp w1 B v1 v2 N S w2) : Stp w B vi vo N S w2 := by
  obtain ⟨v3, v4, M, b⟩ := Z
  exact ⟨v3, v4, A.trans M, b⟩
theorem Moved.of0 {w W : World} (C : Chg (fun _ => False) w W) (B : Nat) (vi vo : Value) : Moved w W B vi vo vi vo := ⟨C.mono fun _ _ => False.elim, fun k q => .inl q⟩
theorem moved124 {w W w2 : World} {B : Nat} {vi vo v : Value} (C0 : Chg (fun _ => False) w W) (C : Chg (fun k => k = B ∨ vi.ownBlock = some k ∨ vo.ownBlock = some k) W w2) (fr : ∀ k, v.ownBlock = some k → W.heap.size ≤ k) : Moved w w2 B vi vo v (.slice none 0 0) :=
  (Moved.of0 C0 B vi vo).trans ⟨C, fun k q => by
    rcases q with q | q
    · exact .inr (fr k q)
    · simp [Value.ownBlock] at q⟩
theorem Bs.chg0 {w w1 : World} {B : Nat} {vi vo : Value} {N : Nat} {S : Nat → Prop} (H : Bs w B vi vo N S) (C : Chg (fun _ => False) w w1) : Bs w1 B vi vo N S := by
  obtain ⟨n, f, n', f', a, b⟩ := H
  exact ⟨n, f, n', f', a.chg0 C, b⟩
theorem Stp.congr {w w' : World} {B : Nat} {vi vo : Value} {N N' : Nat} {S S' : Nat → Prop} (H : Stp w B vi vo N S w') (hN : N ≤ N') (hS : ∀ k, S k ↔ S' k) : Stp w B vi vo N' S' w' := by
  obtain ⟨v1, v2, a, b⟩ := H
  exact ⟨v1, v2, a, b.congr hN hS⟩
theorem c72a (B : Nat) (p : Option Addr) (c : Nat) (vi : Value) (n : Nat) (f : Nat → Nat × Nat) (f' : Nat → Nat × Nat) (N : Nat) (S : Nat → Prop) (hN : n + 0 ≤ N) (hb : N ≤ 90000000) (hS : ∀ k, S k ↔ MemR n f k ∧ ¬ MemR 0 f' k) (r : Nat × Nat) (or : okR r) (w : World) (H : Bld w B vi (.slice p 0 c) n f 0 f') :
    Calls Tryz.prog 72 #[.pointer (some ⟨B, 0, none⟩), .agg #[.int .u64 (hK r.1), .int .u64 (lK r.1), .bool true, .bool (sK r.1), .string ⟨#[]⟩, .int .u64 (hK r.2), .int .u64 (lK r.2), .bool true, .bool (sK r.2), .string ⟨#[]⟩]] w fun e w' => e = .returned (.tuple #[]) ∧ Stp w B vi (.slice p 0 c) (N + 1) (fun k => S k ∨ (r.1 ≤ k ∧ k ≤ r.2)) w' := by
  have HH : Hid _ := H
  have HS : Hid _ := hS
  obtain ⟨cB0, cB1, cB2, fB0, fB1, fB2⟩ := blkB H.blk
  have NB1 : Hid _ := H.notB.1
  have hBlt : B < w.heap.size := (Array.getElem?_eq_some_iff.1 H.blk).1
  clear H hS
  have hBs1 : ∀ k, B < w.heap.size + k := fun k => by omega
  have hBs2 : ∀ k l, B < w.heap.size + k + l := fun k l => by omega
  go_enter Tryz.func72, Tryz.ntmps72
  go_wp2_with (first | (go_at_call 107; (with_reducible refine (k107 r or _).mono ?_); rintro e w' ⟨rfl, dd, oo, rfl⟩))
  go_region_law (refine step_app80 rfl _ _ rfl vi n f rfl ?hown _ 0 1 1 (fun _ => r) rfl ?hr ?sz ?_; (case hown => exact HH.out.i.chg (F := fun _ => False) (by (repeat (with_reducible first | refine Chg.plus ?_ _ _ | refine Chg.alloc ?_ _ | refine Chg.drew ?_ | exact Chg.refl _ _))) (fun _ _ => id)); (case hr => intro i1 hi1; rw [show i1 = 0 by omega]; exact rangeAt_new _ _ r (by simp)); (case sz => omega); intro v' w' hO' hC' hat; have HCC : Hid (Chg (AtV vi) w w') := Chg.trans (by (repeat (with_reducible first | refine Chg.plus ?_ _ _ | refine Chg.alloc ?_ _ | refine Chg.drew ?_ | exact Chg.refl _ _))) hC'; clear hC'; obtain ⟨G', cap', rfl, hO2⟩ := hO'.out.pos; clear hO'; have hB' : w'.heap[B]? = some (.cells #[vi, (.slice p 0 c), .slice none 0 0] 129 (0, 0)) := (HCC.out.block B hBlt NB1.out).trans HH.out.blk; obtain ⟨eB0, eB1, eB2, gB0, gB1, gB2⟩ := blkB hB'; have hBl' : B < w'.heap.size := (Array.getElem?_eq_some_iff.1 hB').1; clear hB')
  all_goals
    go_wp2_with fail
    go_end0
    refine ⟨rfl, add_end rfl hN HS.out (bldIn HH.out HCC.out (.inr ⟨G', cap', rfl, hO2.out⟩) (HH.out.oki.snoc or) ?_)⟩
    rcases hat.out with q | q
    · exact .inl q
    · exact .inr ⟨_, q, by simp; try omega⟩

theorem c72b (B : Nat) (p : Option Addr) (c : Nat) (vi : Value) (n : Nat) (f : Nat → Nat × Nat) (n' : Nat) (n0 : 0 < n') (f' : Nat → Nat × Nat) (N : Nat) (S : Nat → Prop) (hN : n + n' ≤ N) (hb : N ≤ 90000000) (hS : ∀ k, S k ↔ MemR n f k ∧ ¬ MemR n' f' k) (r : Nat × Nat) (or : okR r) (w : World) (H : Bld w B vi (.slice p n' c) n f n' f') :
    Calls Tryz.prog 72 #[.pointer (some ⟨B, 0, none⟩), .agg #[.int .u64 (hK r.1), .int .u64 (lK r.1), .bool true, .bool (sK r.1), .string ⟨#[]⟩, .int .u64 (hK r.2), .int .u64 (lK r.2), .bool true, .bool (sK r.2), .string ⟨#[]⟩]] w fun e w' => e = .returned (.tuple #[]) ∧ Stp w B vi (.slice p n' c) (N + 1) (fun k => S k ∨ (r.1 ≤ k ∧ k ≤ r.2)) w' := by
  have HH : Hid _ := H
  have HS : Hid _ := hS
  obtain ⟨cB0, cB1, cB2, fB0, fB1, fB2⟩ := blkB H.blk
  have hBlt0 : B < w.heap.size := (Array.getElem?_eq_some_iff.1 H.blk).1
  clear H hS
  have hBs1 : ∀ k, B < w.heap.size + k := fun k => by omega
  have hBs2 : ∀ k l, B < w.heap.size + k + l := fun k l => by omega
  go_enter Tryz.func72, Tryz.ntmps72
  go_wp2_with (first | (go_at_call 107; (with_reducible refine (k107 r or _).mono ?_); rintro e w' ⟨rfl, dd, oo, rfl⟩))
  refine (c124 B vi _ n f n' f' (by omega) (by omega) _ (HH.out.chg0 (by (repeat (with_reducible first | refine Chg.plus ?_ _ _ | refine Chg.alloc ?_ _ | refine Chg.drew ?_ | exact Chg.refl _ _))))).mono ?_
  rintro e w2 ⟨rfl, v, m, h, C2, HB, fr, K, M, l⟩
  have A2 : Hid (Moved w w2 B vi (.slice p n' c) v (.slice none 0 0)) := moved124 (by (repeat (with_reducible first | refine Chg.plus ?_ _ _ | refine Chg.alloc ?_ _ | refine Chg.drew ?_ | exact Chg.refl _ _))) C2 fr
  have HM : Hid (∀ k, S k ↔ MemR m h k ∧ ¬ MemR 0 h k) := fun k => by
    rw [HS.out k, M k]
    exact ⟨fun q => ⟨q, fun ⟨i, hi, _⟩ => by omega⟩, fun q => q.1⟩
  have HH2 : Hid _ := HB
  have cR : Hid _ := C2
  obtain ⟨dB0, dB1, dB2, hB0, hB1, hB2⟩ := blkB HB.blk
  have NB2 : Hid _ := HB.notB.1
  have hBlt : B < w2.heap.size := (Array.getElem?_eq_some_iff.1 HB.blk).1
  have rc : Hid (w2.rangeAt w.heap.size 0 (rcL r)) := by
    refine rangeAt_chg cR.out ((by (repeat (with_reducible first | refine rangeAt_plus ?_ _ _ | exact rangeAt_new _ _ r rfl)))) ?_
    rintro (q | q | q)
    · omega
    · have := HH.out.i.lt q; omega
    · have := HH.out.o.lt q; omega
  obtain ⟨ca0, ca1, ca2, ca3, ca4, ca5, ca6, ca7, ca8, ca9⟩ := rc_cells rc.out
  have hz : w.heap.size < w2.heap.size := World.block_lt_of_cell? _ _ ca0
  have hBs3 : ∀ k, B < w2.heap.size + k := fun k => by omega
  have hzs3 : ∀ k, w.heap.size < w2.heap.size + k := fun k => by omega
  clear C2 HB K M fr cB0 cB1 cB2 fB0 fB1 fB2 hBlt0
  go_wp2_with fail
  go_region_law (refine step_app80 rfl _ _ rfl v m h rfl ?hown _ 0 1 1 (fun _ => r) rfl ?hr ?sz ?_; (case hown => exact HH2.out.i.chg (F := fun _ => False) (by (repeat (with_reducible first | refine Chg.plus ?_ _ _ | refine Chg.alloc ?_ _ | refine Chg.drew ?_ | exact Chg.refl _ _))) (fun _ _ => id)); (case hr => intro i1 hi1; rw [show i1 = 0 by omega]; exact rangeAt_new _ _ r (by simp)); (case sz => omega); intro v' w' hO' hC' hat; have HCC : Hid (Chg (AtV v) w2 w') := Chg.trans (by (repeat (with_reducible first | refine Chg.plus ?_ _ _ | refine Chg.alloc ?_ _ | refine Chg.drew ?_ | exact Chg.refl _ _))) hC'; clear hC'; obtain ⟨G', cap', rfl, hO2⟩ := hO'.out.pos; clear hO'; have hB' : w'.heap[B]? = some (.cells #[v, (.slice none 0 0), .slice none 0 0] 129 (0, 0)) := (HCC.out.block B hBlt NB2.out).trans HH2.out.blk; obtain ⟨eB0, eB1, eB2, gB0, gB1, gB2⟩ := blkB hB'; have hBl' : B < w'.heap.size := (Array.getElem?_eq_some_iff.1 hB').1; clear hB')
  all_goals
    go_wp2_with fail
    go_end0
    refine ⟨rfl, Stp.after A2.out (add_end rfl (by omega) HM.out (bldIn HH2.out HCC.out (.inr ⟨G', cap', rfl, hO2.out⟩) (HH2.out.oki.snoc or) ?_))⟩
    rcases hat.out with q | q
    · exact .inl q
    · exact .inr ⟨_, q, by simp; try omega⟩

end Go.Proofs.YtmoabfpdlbngeaaGreatDoor
end
