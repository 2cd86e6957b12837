/-
  Part of the proofs on the laws of pub-addresssets: joined texts (Own, M1).
-/
import Derived.Test.YtmoabfpdlbngeaaGreatDoorVK
import Derived.Maps.AppendAt
section
set_option linter.unusedSimpArgs false
/- A row of ranges that the call owns whole: appended to, written, read. -/
namespace Go.Proofs.YtmoabfpdlbngeaaGreatDoor
open Go.RowKit
set_option linter.unusedVariables false
def cellsL : Nat → (Nat → Nat × Nat) → List Value
  | 0, _ => []
  | m + 1, h => cellsL m h ++ rcL (h m)
theorem rcL_len (r : Nat × Nat) : (rcL r).length = 10 := rfl
theorem cellsL_len (m : Nat) (h : Nat → Nat × Nat) : (cellsL m h).length = m * 10 := by
  induction m with
  | zero => rfl
  | succ m ih => rw [cellsL, List.length_append, ih, rcL_len]; omega
theorem cellsL_get (m : Nat) (h : Nat → Nat × Nat) (i k : Nat) (hi : i < m) (hk : k < 10) : (cellsL m h)[i * 10 + k]? = (rcL (h i))[k]? := by
  induction m with
  | zero => omega
  | succ m ih =>
    rw [cellsL]
    by_cases e : i = m
    · subst e
      rw [List.getElem?_append_right (by rw [cellsL_len]; omega), cellsL_len]
      congr 1; omega
    · rw [List.getElem?_append_left (by rw [cellsL_len]; omega)]
      exact ih (by omega)
theorem cellsL_append (m k : Nat) (h f : Nat → Nat × Nat) : cellsL m h ++ cellsL k f = cellsL (m + k) (fun j => if j < m then h j else f (j - m)) := by
  have base : ∀ m' , m' ≤ m → cellsL m' (fun j => if j < m then h j else f (j - m)) = cellsL m' h := by
    intro m' hm
    induction m' with
    | zero => rfl
    | succ m' ih => rw [cellsL, cellsL, ih (by omega), if_pos (by omega)]
  induction k with
  | zero => rw [cellsL, List.append_nil, Nat.add_zero, base m (Nat.le_refl m)]
  | succ k ih =>
    rw [cellsL, ← List.append_assoc, ih, ← Nat.add_assoc, cellsL, if_neg (by omega)]
    congr 3; omega
/-- The block G is such a row, of room for cap, its first m told by h. -/
structure OwnR (w : World) (G m cap : Nat) (h : Nat → Nat × Nat) : Prop where
  blk : ∃ cur, w.heap[G]? = some (.cells cur 80 (0, 0)) ∧ cur.size = cap * 10
  le : m ≤ cap
  mx : cap ≤ maxLen
  row : ∀ i, i < m → w.rangeAt G (0 + i * 10) (rcL (h i))
theorem OwnR.cellsAt {w : World} {G m cap : Nat} {h : Nat → Nat × Nat} (H : OwnR w G m cap h) : RowAt w G 0 m h :=
  ⟨H.row, fun i hi j hj => by
    obtain ⟨cur, hc, hs⟩ := H.blk
    have hl := H.le
    constructor
    · rw [cell_of_row w G _ cur 80 (0, 0) hc]
      rw [Array.getElem?_eq_getElem (by omega)]; rfl
    · unfold World.frozen?; simp [hc]⟩
theorem OwnR.lt {w : World} {G m cap : Nat} {h : Nat → Nat × Nat} (H : OwnR w G m cap h) : G < w.heap.size := by
  obtain ⟨cur, hc, hs⟩ := H.blk
  exact (Array.getElem?_eq_some_iff.1 hc).1
theorem OwnR.owns {w : World} {G m cap : Nat} {h : Nat → Nat × Nat} (H : OwnR w G m cap h) : w.ownsRow 0 80 10 (.slice (some ⟨G, 0, none⟩) m cap) m (cellsL m h) := by
  obtain ⟨cur, hc, hs⟩ := H.blk
  have hl := H.le
  refine ⟨cellsL_len m h, .inr ⟨G, cap, cur, rfl, Nat.zero_le _, hc, H.le, H.mx, hs, ?_⟩⟩
  apply List.ext_getElem?
  intro j
  by_cases hj : j < m * 10
  · rw [List.getElem?_take_of_lt hj]
    have hk : j % 10 < 10 := Nat.mod_lt _ (by omega)
    have e : j = j / 10 * 10 + j % 10 := by omega
    have hr := H.row (j / 10) (by omega)
    have hv : (rcL (h (j / 10)))[j % 10]? = some ((rcL (h (j / 10)))[j % 10]'(by rw [rcL_len]; exact hk)) := List.getElem?_eq_getElem _
    have := hr (j % 10) _ hv
    rw [show (⟨G, 0 + j / 10 * 10 + j % 10, none⟩ : Addr) = ⟨G, j, none⟩ by congr 1; omega, cell_of_row w G j cur 80 (0, 0) hc] at this
    have hc2 := cellsL_get m h (j / 10) (j % 10) (by omega) hk
    rw [← e, hv] at hc2
    rw [Array.getElem?_toList, this, hc2]
  · rw [List.getElem?_eq_none (by simp; omega), List.getElem?_eq_none (by rw [cellsL_len]; omega)]
def OwnV (w : World) (v : Value) (m : Nat) (h : Nat → Nat × Nat) : Prop := (v = .slice none 0 0 ∧ m = 0) ∨ ∃ G cap, v = .slice (some ⟨G, 0, none⟩) m cap ∧ OwnR w G m cap h
theorem OwnV.owns {w : World} {v : Value} {m : Nat} {h : Nat → Nat × Nat} (H : OwnV w v m h) : w.ownsRow 0 80 10 v m (cellsL m h) := by
  rcases H with ⟨rfl, rfl⟩ | ⟨G, cap, rfl, H⟩
  · exact World.ownsRow_nil _ _ _ _
  · exact H.owns
theorem OwnV.of {w : World} {v : Value} {m : Nat} {h : Nat → Nat × Nat} (H : w.ownsRow 0 80 10 v m (cellsL m h)) : OwnV w v m h := by
  rcases H.2 with ⟨hv, h0⟩ | ⟨G, cap, cur, hv, hb, hc, hle, hmx, hs, ht⟩
  · exact .inl ⟨hv, by omega⟩
  · refine .inr ⟨G, cap, hv, ⟨⟨cur, hc, hs⟩, hle, hmx, fun i hi k v hk => ?_⟩⟩
    have hk10 : k < 10 := by have := (List.getElem?_eq_some_iff.1 hk).1; rwa [rcL_len] at this
    rw [cell_of_row w G _ cur 80 (0, 0) hc, ← hk, ← cellsL_get m h i k hi hk10, ← ht, List.getElem?_take_of_lt (by omega), Array.getElem?_toList]
    congr 1; omega
theorem cellsL_one {w : World} {g o k : Nat} {f : Nat → Nat × Nat} (hr : ∀ i, i < k → w.rangeAt g (o + i * 10) (rcL (f i))) : ∀ j u, (cellsL k f)[j]? = some u → w.cell? ((⟨g, o, none⟩ : Addr).add j) = some u := fun j u hu => by
  have hj : j < k * 10 := by have := (List.getElem?_eq_some_iff.1 hu).1; rwa [cellsL_len] at this
  have hk : j % 10 < 10 := Nat.mod_lt _ (by omega)
  have e : j = j / 10 * 10 + j % 10 := by omega
  rw [e, cellsL_get k f _ _ (by omega) hk] at hu
  rw [Addr.add_mid, e, ← Nat.add_assoc]
  exact hr (j / 10) (by omega) _ _ hu
theorem cellsL_cell (m : Nat) (h : Nat → Nat × Nat) : ∀ u ∈ cellsL m h, u.oneCell' = true := by
  induction m with
  | zero => intro u hu; simp [cellsL] at hu
  | succ m ih =>
    intro u hu
    rw [cellsL, List.mem_append] at hu
    rcases hu with hu | hu
    · exact ih u hu
    · simp only [rcL, List.mem_cons, List.not_mem_nil, or_false] at hu
      rcases hu with rfl | rfl | rfl | rfl | rfl | rfl | rfl | rfl | rfl | rfl <;> simp [Value.oneCell']
/-- APPEND. -/
theorem info80 : ∃ i z, Tryz.prog.info? 80 = some i ∧ i.zero = some z ∧ i.size = 10 ∧ i.bytes = 80 ∧ z.cells.size = 10 := by
  have h1 : (Tryz.prog.info? 80).map (fun i => (i.size, i.bytes, i.zero.map (·.cells.size))) = some (10, 80, some 10) := by kernel_rfl
  cases hi : Tryz.prog.info? 80 with
  | none => rw [hi] at h1; cases h1
  | some i =>
    rw [hi] at h1
    simp only [Option.map_some, Option.some.injEq, Prod.mk.injEq] at h1
    obtain ⟨h1, h2, h3⟩ := h1
    cases hz : i.zero with
    | none => rw [hz] at h3; cases h3
    | some z =>
      rw [hz] at h3
      simp only [Option.map_some, Option.some.injEq] at h3
      exact ⟨i, z, rfl, hz, h1, h2, h3⟩
theorem under71 : Tryz.prog.underlying 71 = some (.slice 80) := by kernel_rfl
theorem app80 {ops : Array Oper} {rest : List Oper} {o : Oper} {a : Act} {w : World} {Q : Exit → Act → World → Prop} (hgd : o.guard = none) (s x : Operand)
    (ho : o.op = .call { callee := .builtin .append, args := #[s, x], argTypes := #[71, 71] })
    (v : Value) (m : Nat) (h : Nat → Nat × Nat) (hs : a.eval s = v) (hown : OwnV w v m h) (g off k c : Nat) (f : Nat → Nat × Nat) (hx : a.eval x = .slice (some ⟨g, off, none⟩) k c)
    (hr : ∀ i, i < k → w.rangeAt g (off + i * 10) (rcL (f i))) (hsz : m + k ≤ 1000000000)
    (H : ∀ v' w', OwnV w' v' (m + k) (fun j => if j < m then h j else f (j - m)) → w.grownBy w' v.ownBlock → (v'.ownBlock = v.ownBlock ∨ v'.ownBlock = some w.heap.size) → wpList Tryz.prog ops Q rest (a.put o.dst v') w') :
    wpList Tryz.prog ops Q (o :: rest) a w := by
  obtain ⟨i, z, hi, hz, h1, h2, h3⟩ := info80
  refine wpList_append_own_at w hgd s x 71 ho 0 80 i z 10 80 under71 hi hz h1 h2 h3 (by omega) v m (cellsL m h) hs hown.owns ⟨g, off, none⟩ k c (cellsL k f) hx (cellsL_len k f) (cellsL_one hr) (cellsL_cell k f) (by unfold maxLen; omega) (by omega) (Nat.zero_le _) ?_
  intro v' w' ho' hg _ hat
  rw [cellsL_append] at ho'
  exact H v' w' (.of ho') hg hat
theorem Chg.grown {F : Nat → Prop} {a b c : World} (h : Chg F a b) {row : Option Nat} (hg : b.grownBy c row) (hF : ∀ k, row = some k → k < a.heap.size → F k) : Chg F a c :=
  ⟨hg.os.trans h.os, hg.tape.trans h.tape, hg.output.trans h.output, Nat.le_trans h.size hg.size, fun k hk hn => by
    rw [hg.block k (Nat.lt_of_lt_of_le hk h.size) (fun e => hn (hF k e.symm hk)), h.block k hk hn]⟩
theorem OwnR.chg {F : Nat → Prop} {w w' : World} {G m cap : Nat} {h : Nat → Nat × Nat} (H : OwnR w G m cap h) (hc : Chg F w w') (hb : ¬ F G) : OwnR w' G m cap h := by
  have hlt := H.lt
  obtain ⟨cur, hcu, hs⟩ := H.blk
  exact ⟨⟨cur, (hc.block G hlt hb).trans hcu, hs⟩, H.le, H.mx, fun i hi => rangeAt_chg hc (H.row i hi) hb⟩
theorem OwnR.plus {w : World} {G m cap : Nat} {h : Nat → Nat × Nat} (H : OwnR w G m cap h) (d : Nat) (os : Array Obj) : OwnR (w.plus d os) G m cap h :=
  H.chg (F := fun _ => False) ((Chg.refl _ w).plus d os) id
theorem OwnR.alloc {w : World} {G m cap : Nat} {h : Nat → Nat × Nat} (H : OwnR w G m cap h) (ob : Obj) : OwnR (w.alloc ob) G m cap h :=
  H.chg (F := fun _ => False) ((Chg.refl _ w).alloc ob) id
theorem blk_setCells {g : Nat} {t : TypeId} {fr : Nat × Nat} : ∀ (vs : List Value) (o : Nat) {w : World} {cur : Array Value}, w.heap[g]? = some (.cells cur t fr) → ∃ cur', (w.setCells g o vs).heap[g]? = some (.cells cur' t fr) ∧ cur'.size = cur.size
  | [], _, _, cur, h => ⟨cur, h, rfl⟩
  | v :: r, o, w, cur, h => by
    rw [World.setCells, setCell_eq_setRow w g o cur t fr v h]
    obtain ⟨cur', h1, h2⟩ := blk_setCells r (o + 1) (setRow_heap w g cur (cur.setIfInBounds o v) t fr h)
    exact ⟨cur', h1, h2.trans (by simp)⟩
theorem OwnR.set {w : World} {G m cap : Nat} {h : Nat → Nat × Nat} (H : OwnR w G m cap h) (i : Nat) (hi : i < m) (r : Nat × Nat) : OwnR (w.setCells G (0 + i * 10) (rcL r)) G m cap (fun j => if j = i then r else h j) := by
  obtain ⟨cur, hcu, hs⟩ := H.blk
  obtain ⟨cur', h1, h2⟩ := blk_setCells (rcL r) (0 + i * 10) hcu
  exact ⟨⟨cur', h1, h2.trans hs⟩, H.le, H.mx, (H.cellsAt.set i hi r).rng⟩
/-- The last address of an element anew. -/
theorem RowAt.setTo {w : World} {g o n : Nat} {f : Nat → Nat × Nat} (h : RowAt w g o n f) (i : Nat) (hi : i < n) (k : Nat) : RowAt (w.setCells g (o + i * 10 + 5) (adL k)) g o n (fun j => if j = i then ((f i).1, k) else f j) := by
  refine ⟨fun j hj => ?_, fun j hj => World.there_setCells (h.thr j hj) _ _ _⟩
  by_cases e : j = i
  · subst e
    simp only [if_true]
    refine rangeAt_pair (r := ((f j).1, k)) ?_ ?_
    · exact World.rangeAt_setCells_apart (rangeAt_fst (h.rng j hj)) _ _ _ (by right; left; simp only [adL, List.length_cons, List.length_nil]; omega)
    · exact World.rangeAt_setCells_same w g _ (adL k) (fun q hq => by
        have hq5 : q < 5 := hq
        have := h.thr j hj (5 + q) (by omega)
        rwa [← Nat.add_assoc] at this)
  · rw [if_neg e]
    exact World.rangeAt_setCells_apart (h.rng j hj) _ _ _ (by right; simp only [rcL, adL, List.length_cons, List.length_nil]; omega)
theorem RowAt.setFrom {w : World} {g o n : Nat} {f : Nat → Nat × Nat} (h : RowAt w g o n f) (i : Nat) (hi : i < n) (k : Nat) : RowAt (w.setCells g (o + i * 10) (adL k)) g o n (fun j => if j = i then (k, (f i).2) else f j) := by
  refine ⟨fun j hj => ?_, fun j hj => World.there_setCells (h.thr j hj) _ _ _⟩
  by_cases e : j = i
  · subst e
    simp only [if_true]
    refine rangeAt_pair (r := (k, (f j).2)) ?_ ?_
    · exact World.rangeAt_setCells_same w g _ (adL k) (fun q hq => h.thr j hj q (by have hq5 : q < 5 := hq; omega))
    · exact World.rangeAt_setCells_apart (rangeAt_snd (h.rng j hj)) _ _ _ (by right; right; simp only [adL, List.length_cons, List.length_nil]; omega)
  · rw [if_neg e]
    exact World.rangeAt_setCells_apart (h.rng j hj) _ _ _ (by right; simp only [rcL, adL, List.length_cons, List.length_nil]; omega)
theorem OwnR.setTo {w : World} {G m cap : Nat} {h : Nat → Nat × Nat} (H : OwnR w G m cap h) (i : Nat) (hi : i < m) (k : Nat) : OwnR (w.setCells G (0 + i * 10 + 5) (adL k)) G m cap (fun j => if j = i then ((h i).1, k) else h j) := by
  obtain ⟨cur, hcu, hs⟩ := H.blk
  obtain ⟨cur', h1, h2⟩ := blk_setCells (adL k) (0 + i * 10 + 5) hcu
  exact ⟨⟨cur', h1, h2.trans hs⟩, H.le, H.mx, (H.cellsAt.setTo i hi k).rng⟩
end Go.Proofs.YtmoabfpdlbngeaaGreatDoor
end

section
namespace Go.Proofs.YtmoabfpdlbngeaaGreatDoor
open Go.RowKit
set_option maxHeartbeats 400000
set_option linter.unusedVariables false
set_option linter.unusedSimpArgs false
theorem k102 (a b : Nat) (oa : okK a) (ob : okK b) (x : Bool) (hx : decide (a < b) = x) (w : World) : Calls Tryz.prog 102 #[.agg #[.int .u64 (hK a), .int .u64 (lK a), .bool true, .bool (sK a), .string ⟨#[]⟩], .agg #[.int .u64 (hK b), .int .u64 (lK b), .bool true, .bool (sK b), .string ⟨#[]⟩]] w fun e w' => e = .returned (.bool x) ∧ Plus w w' := by
  have hq := c102 (hK a) (lK a) (sK a) (hK b) (lK b) (sK b) w
  rw [ltK a b oa ob, hx] at hq
  exact hq
theorem k107 (r : Nat × Nat) (o : okR r) (w : World) : Calls Tryz.prog 107 #[.agg #[.int .u64 (hK r.1), .int .u64 (lK r.1), .bool true, .bool (sK r.1), .string ⟨#[]⟩, .int .u64 (hK r.2), .int .u64 (lK r.2), .bool true, .bool (sK r.2), .string ⟨#[]⟩]] w fun e w' => e = .returned (.bool true) ∧ Plus w w' := by
  have e := ltK r.2 r.1 o.b o.a
  rw [← o.s] at e ⊢
  have e2 : ltA (hK r.2) (lK r.2) (sK r.1) (hK r.1) (lK r.1) (sK r.1) = false := by
    rw [e]; exact decide_eq_false (by have := o.le; omega)
  exact c107 (hK r.1) (lK r.1) (hK r.2) (lK r.2) (sK r.1) w e2
theorem k163 (a : Nat) (oa : okK a) (p : okK (a + 1)) (w : World) : Calls Tryz.prog 163 #[.agg #[.int .u64 (hK a), .int .u64 (lK a), .bool true, .bool (sK a), .string ⟨#[]⟩]] w fun e w' => e = .returned (.agg #[.int .u64 (hK (a + 1)), .int .u64 (lK (a + 1)), .bool true, .bool (sK (a + 1)), .string ⟨#[]⟩]) ∧ Plus w w' := by
  have hq := c163n (hK a) (lK a) (sK a) (lK_in a oa).1 (by rw [mxK a oa]; simp [p]) w
  rw [nxHK a oa p, nxLK a oa p, ← sKs a oa p] at hq
  rw [← sKs a oa p]
  exact hq
theorem k163e (a b : Nat) (oa : okK a) (p : okK b) (e : a + 1 = b) (w : World) : Calls Tryz.prog 163 #[.agg #[.int .u64 (hK a), .int .u64 (lK a), .bool true, .bool (sK a), .string ⟨#[]⟩]] w fun e w' => e = .returned (.agg #[.int .u64 (hK b), .int .u64 (lK b), .bool true, .bool (sK b), .string ⟨#[]⟩]) ∧ Plus w w' := by
  subst e; exact k163 a oa p w
theorem k163z (a : Nat) (oa : okK a) (p : ¬ okK (a + 1)) (w : World) : Calls Tryz.prog 163 #[.agg #[.int .u64 (hK a), .int .u64 (lK a), .bool true, .bool (sK a), .string ⟨#[]⟩]] w fun e w' => e = .returned (.agg #[.int .u64 0, .int .u64 0, .bool false, .bool false, .string ⟨#[]⟩]) ∧ Plus w w' :=
  c163z (hK a) (lK a) (sK a) (lK_in a oa).1 (by rw [mxK a oa]; simp [p]) w
theorem neK (a b : Nat) (oa : okK a) (ob : okK b) (h : a ≠ b) : ¬ (hK a = hK b ∧ lK a = lK b ∧ sK a = sK b) := fun ⟨x, y, z⟩ => h (injK a b oa ob x y z)
/-- What the ranges have. -/
def MemR (n : Nat) (f : Nat → Nat × Nat) (k : Nat) : Prop := ∃ i, i < n ∧ (f i).1 ≤ k ∧ k ≤ (f i).2
/-- In order, and apart. -/
structure CanonR (m : Nat) (h : Nat → Nat × Nat) : Prop where
  ok : ∀ i, i < m → okR (h i)
  gap : ∀ i, i + 1 < m → (h i).2 + 1 < (h (i + 1)).1
/-- The first i of the sorted ranges f are put together as h. -/
structure MrgI (i : Nat) (f : Nat → Nat × Nat) (m : Nat) (h : Nat → Nat × Nat) : Prop where
  can : CanonR m h
  pos : 0 < m
  le : m ≤ i
  st : (h (m - 1)).1 ≤ (f (i - 1)).1
  mem : ∀ k, MemR m h k ↔ MemR i f k
theorem MemR_succ (i : Nat) (f : Nat → Nat × Nat) (k : Nat) : MemR (i + 1) f k ↔ MemR i f k ∨ ((f i).1 ≤ k ∧ k ≤ (f i).2) := by
  constructor
  · rintro ⟨j, hj, h⟩
    by_cases e : j = i
    · subst e; exact .inr h
    · exact .inl ⟨j, by omega, h⟩
  · rintro (⟨j, hj, h⟩ | h)
    · exact ⟨j, by omega, h⟩
    · exact ⟨i, by omega, h⟩
theorem MemR_congr {m : Nat} {h h' : Nat → Nat × Nat} (e : ∀ i, i < m → h i = h' i) (k : Nat) : MemR m h k ↔ MemR m h' k :=
  ⟨fun ⟨i, hi, q⟩ => ⟨i, hi, by rw [← e i hi]; exact q⟩, fun ⟨i, hi, q⟩ => ⟨i, hi, by rw [e i hi]; exact q⟩⟩
theorem MrgI.start (f : Nat → Nat × Nat) (o : okR (f 0)) : MrgI 1 f 1 f :=
  ⟨⟨fun i hi => by rw [show i = 0 by omega]; exact o, fun i hi => by omega⟩, by omega, by omega, Nat.le_refl _, fun _ => Iff.rfl⟩
theorem MrgI.startC (f : Nat → Nat × Nat) (o : okR (f 0)) : MrgI 1 f 1 (fun _ => f 0) :=
  ⟨⟨fun i hi => o, fun i hi => by omega⟩, by omega, by omega, Nat.le_refl _, fun k => MemR_congr (fun i hi => by rw [show i = 0 by omega]) k⟩
/-- The sorted ranges begin later and later. -/
theorem SortR.first {i : Nat} {f : Nat → Nat × Nat} (s : SortR i f) {a b : Nat} (h : a < b) (hb : b < i) : (f a).1 ≤ (f b).1 := by
  have := s a b h hb
  simp only [lessR, decide_eq_false_iff_not] at this
  omega
/-- The last range is made longer (it touches the next one, or has some of it). -/
theorem MrgI.longer {i m : Nat} {f h : Nat → Nat × Nat} (M : MrgI i f m h) (o : okR (f i)) (s : (f (i - 1)).1 ≤ (f i).1) (t : (f i).1 ≤ (h (m - 1)).2 + 1) (l : (h (m - 1)).2 ≤ (f i).2) :
    MrgI (i + 1) f m (fun j => if j = m - 1 then ((h (m - 1)).1, (f i).2) else h j) := by
  obtain ⟨⟨C1, C2⟩, Mp, Ml, Ms, Mm⟩ := M
  have o1 := C1 (m - 1) (by omega)
  refine ⟨⟨fun j hj => ?_, fun j hj => ?_⟩, Mp, by omega, ?_, fun k => ?_⟩
  · by_cases e : j = m - 1
    · rw [if_pos e]
      have q1 := o1.a; have q2 := o1.b; have q3 := o1.s; have q4 := o1.le
      have p1 := o.a; have p2 := o.b; have p3 := o.s; have p4 := o.le
      refine ⟨q1, p2, ?_, by show (h (m - 1)).1 ≤ (f i).2; omega⟩
      show sK (h (m - 1)).1 = sK (f i).2
      rw [← p3]
      unfold sK at *
      unfold okK at *
      rw [Bool.eq_iff_iff] at *
      simp only [decide_eq_true_eq] at *
      omega
    · rw [if_neg e]; exact C1 j hj
  · have := C2 j hj
    rw [if_neg (by omega)]
    by_cases e : j + 1 = m - 1
    · rw [if_pos e]; rw [e] at this; exact this
    · rw [if_neg e]; exact this
  · simp only [if_true, Nat.add_sub_cancel]; omega
  · rw [MemR_succ, ← Mm k]
    constructor
    · rintro ⟨j, hj, q⟩
      by_cases e : j = m - 1
      · subst e
        simp only [if_true] at q
        by_cases p : k ≤ (h (m - 1)).2
        · exact .inl ⟨m - 1, hj, q.1, p⟩
        · exact .inr ⟨by omega, q.2⟩
      · simp only [if_neg e] at q
        exact .inl ⟨j, hj, q⟩
    · rintro (⟨j, hj, q⟩ | q)
      · by_cases e : j = m - 1
        · subst e; exact ⟨m - 1, hj, by simp only [if_true]; omega⟩
        · exact ⟨j, hj, by simp only [if_neg e]; exact q⟩
      · exact ⟨m - 1, by omega, by simp only [if_true]; omega⟩
theorem MrgI.more {i m : Nat} {f h : Nat → Nat × Nat} (M : MrgI i f m h) (o : okR (f i)) (t : (h (m - 1)).2 + 1 < (f i).1) :
    MrgI (i + 1) f (m + 1) (fun j => if j < m then h j else (f (i + (j - m)))) := by
  obtain ⟨⟨C1, C2⟩, Mp, Ml, Ms, Mm⟩ := M
  refine ⟨⟨fun j hj => ?_, fun j hj => ?_⟩, by omega, by omega, ?_, fun k => ?_⟩
  · by_cases e : j < m
    · rw [if_pos e]; exact C1 j e
    · rw [if_neg e, show i + (j - m) = i by omega]; exact o
  · rw [if_pos (by omega)]
    by_cases e : j + 1 < m
    · rw [if_pos e]; exact C2 j e
    · rw [if_neg e, show i + (j + 1 - m) = i by omega, show j = m - 1 by omega]; exact t
  · simp
  · rw [MemR_succ, MemR_succ, ← Mm k, if_neg (by omega), show i + (m - m) = i by omega]
    rw [MemR_congr (h' := h) (fun j hj => by rw [if_pos hj])]
theorem MrgI.skip {i m : Nat} {f h : Nat → Nat × Nat} (M : MrgI i f m h) (s : (f (i - 1)).1 ≤ (f i).1) (l : (f i).2 ≤ (h (m - 1)).2) : MrgI (i + 1) f m h := by
  obtain ⟨C, Mp, Ml, Ms, Mm⟩ := M
  refine ⟨C, Mp, by omega, by rw [Nat.add_sub_cancel]; omega, fun k => ?_⟩
  rw [MemR_succ, ← Mm k]
  constructor
  · exact .inl
  · rintro (q | q)
    · exact q
    · exact ⟨m - 1, by omega, by omega⟩
theorem SameR.mem {n : Nat} {f f0 : Nat → Nat × Nat} (h : SameR n f f0) (k : Nat) : MemR n f k ↔ MemR n f0 k := by
  constructor
  · rintro ⟨i, hi, q⟩
    obtain ⟨j, hj, e⟩ := (h (f i)).1 ⟨i, hi, rfl⟩
    exact ⟨j, hj, by rw [e]; exact q⟩
  · rintro ⟨i, hi, q⟩
    obtain ⟨j, hj, e⟩ := (h (f0 i)).2 ⟨i, hi, rfl⟩
    exact ⟨j, hj, by rw [e]; exact q⟩
end Go.Proofs.YtmoabfpdlbngeaaGreatDoor
end
