/-
  Part of the proofs on the laws of pub-addresssets: joined texts (K, Row, S1).
-/
import Derived.Test.YtmoabfpdlbngeaaGreatDoorVA8
import Derived.Deep.MidRow
section
set_option linter.unusedSimpArgs false
/- Addresses as numbers: those of 4 bytes are themselves, those of 16 lie from 2^33 on: so comparing is comparing numbers, and the two families never touch. -/
namespace Go.Proofs.YtmoabfpdlbngeaaGreatDoor
open Go.RowKit
set_option linter.unusedVariables false
def okK (k : Nat) : Prop := k < 4294967296 ∨ (8589934592 ≤ k ∧ k < 340282366920938463463374607440358146048)
instance (k : Nat) : Decidable (okK k) := by unfold okK; infer_instance
def sK (k : Nat) : Bool := decide (8589934592 ≤ k)
def hK (k : Nat) : Int := if 8589934592 ≤ k then (((k - 8589934592) / 18446744073709551616 : Nat) : Int) else 0
def lK (k : Nat) : Int := if 8589934592 ≤ k then (((k - 8589934592) % 18446744073709551616 : Nat) : Int) else 281470681743360 + (k : Int)
theorem hK_in (k : Nat) (o : okK k) : W64 (hK k) := by
  unfold okK at o; unfold W64 hK
  split <;> omega
theorem lK_in (k : Nat) (o : okK k) : W64 (lK k) := by
  unfold okK at o; unfold W64 lK
  split <;> omega
theorem cmpK (a b : Nat) (oa : okK a) (ob : okK b) : cmpA (hK a) (lK a) (sK a) (hK b) (lK b) (sK b) = if a < b then -1 else if b < a then 1 else 0 := by
  unfold okK at oa ob
  unfold cmpA hK lK sK
  by_cases p : 8589934592 ≤ a <;> by_cases q : 8589934592 ≤ b <;> simp only [p, q, if_true, if_false, decide_true, decide_false, Bool.false_eq_true] <;> (repeat' split) <;> first | rfl | omega | (simp_all; done) | (simp_all; omega)
theorem ltK (a b : Nat) (oa : okK a) (ob : okK b) : ltA (hK a) (lK a) (sK a) (hK b) (lK b) (sK b) = decide (a < b) := by
  unfold ltA
  rw [cmpK a b oa ob]
  by_cases p : a < b <;> by_cases q : b < a <;> simp [p, q]
theorem leK (a b : Nat) (oa : okK a) (ob : okK b) : leA (hK a) (lK a) (sK a) (hK b) (lK b) (sK b) = decide (a ≤ b) := by
  unfold leA
  rw [cmpK a b oa ob]
  by_cases p : a < b <;> by_cases q : b < a <;> simp [p, q] <;> omega
theorem injK (a b : Nat) (oa : okK a) (ob : okK b) (h : hK a = hK b) (l : lK a = lK b) (s : sK a = sK b) : a = b := by
  unfold okK at oa ob
  unfold hK at h; unfold lK at l; unfold sK at s
  by_cases p : 8589934592 ≤ a <;> by_cases q : 8589934592 ≤ b <;> simp [p, q] at h l s <;> omega
theorem bor_zero (a b : Int) (wa : W64 a) (wb : W64 b) : (bits .or .u64 a b == 0) = decide (a = 0 ∧ b = 0) := by
  obtain ⟨X, rfl⟩ := Int.eq_ofNat_of_zero_le wa.1
  obtain ⟨Y, rfl⟩ := Int.eq_ofNat_of_zero_le wb.1
  have h1 := wa.2
  have h2 := wb.2
  rw [u64_or_nat X Y (by omega) (by omega)]
  have : ((X ||| Y : Nat) = 0) ↔ (X = 0 ∧ Y = 0) := by
    constructor
    · intro h
      have hx : X ≤ X ||| Y := Nat.left_le_or
      have hy : Y ≤ X ||| Y := Nat.right_le_or
      omega
    · rintro ⟨rfl, rfl⟩; rfl
  rw [Bool.eq_iff_iff]
  simp only [beq_iff_eq, decide_eq_true_eq]
  omega
theorem nxH_in (h l : Int) : W64 (nxH h l) := by
  unfold nxH; rw [wrap_u64]; exact ⟨by omega, by omega⟩
theorem nxL_in (l : Int) : W64 (nxL l) := by
  unfold nxL lo64; exact ⟨by omega, by omega⟩
theorem nxHK (k : Nat) (o : okK k) (o' : okK (k + 1)) : nxH (hK k) (lK k) = hK (k + 1) := by
  unfold okK at o o'; unfold nxH hK lK hi64
  rw [wrap_u64]
  by_cases p : 8589934592 ≤ k
  · rw [if_pos p, if_pos p, if_pos (show 8589934592 ≤ k + 1 by omega)]; omega
  · rw [if_neg p, if_neg p, if_neg (show ¬ 8589934592 ≤ k + 1 by omega)]; omega
theorem nxLK (k : Nat) (o : okK k) (o' : okK (k + 1)) : nxL (lK k) = lK (k + 1) := by
  unfold okK at o o'; unfold nxL lK lo64
  split <;> split <;> omega
theorem sKs (k : Nat) (o : okK k) (o' : okK (k + 1)) : sK (k + 1) = sK k := by
  unfold okK at o o'; unfold sK
  rw [Bool.eq_iff_iff]; simp only [decide_eq_true_eq]; omega
theorem mxK6 (k : Nat) (p : 8589934592 ≤ k) (o : okK k) : (nxH (hK k) (lK k) = 0 ∧ nxL (lK k) = 0) ↔ ¬ okK (k + 1) := by
  unfold okK at *; unfold nxH nxL hK lK lo64 hi64
  rw [wrap_u64, if_pos p, if_pos p]
  omega
theorem mxK4 (k : Nat) (p : ¬ 8589934592 ≤ k) (o : okK k) : (nxL (lK k) % 4294967296 = 0) ↔ ¬ okK (k + 1) := by
  unfold okK at *; unfold nxL lK lo64
  rw [if_neg p]
  omega
theorem mxK (k : Nat) (o : okK k) : mxA (hK k) (lK k) (sK k) = !decide (okK (k + 1)) := by
  unfold mxA
  rw [bor_zero _ _ (nxH_in _ _) (nxL_in _)]
  by_cases p : 8589934592 ≤ k
  · have e : sK k = true := decide_eq_true p
    have q := mxK6 k p o
    rw [e, Bool.eq_iff_iff]
    simp only [cond_true, decide_eq_true_eq, Bool.not_eq_true', decide_eq_false_iff_not]
    exact q
  · have e : sK k = false := decide_eq_false p
    have q := mxK4 k p o
    rw [e, Bool.eq_iff_iff]
    simp only [cond_false, beq_iff_eq, decide_eq_true_eq, Bool.not_eq_true', decide_eq_false_iff_not]
    exact q
theorem pvHK (k : Nat) (o : okK (k + 1)) (o' : okK k) (s : sK k = true) : pvH (hK (k + 1)) (lK (k + 1)) = hK k := by
  unfold sK at s; simp only [decide_eq_true_eq] at s
  unfold okK at o o'; unfold pvH hK lK bo64
  rw [wrap_u64, if_pos s, if_pos (show 8589934592 ≤ k + 1 by omega), if_pos (show 8589934592 ≤ k + 1 by omega)]
  split <;> omega
theorem pvLK (k : Nat) (o : okK (k + 1)) (o' : okK k) (s : sK k = true) : pvL (lK (k + 1)) = lK k := by
  unfold sK at s; simp only [decide_eq_true_eq] at s
  unfold okK at o o'; unfold pvL lK lo64
  rw [if_pos s, if_pos (show 8589934592 ≤ k + 1 by omega)]
  omega
theorem pv4K (k : Nat) (o : okK (k + 1)) (o' : okK k) (s : sK k = false) : 281470681743360 + pvL (lK (k + 1)) % 4294967296 = lK k := by
  unfold sK at s; simp only [decide_eq_false_iff_not] at s
  unfold okK at o o'; unfold pvL lK lo64
  rw [if_neg s, if_neg (show ¬ 8589934592 ≤ k + 1 by omega)]
  omega
end Go.Proofs.YtmoabfpdlbngeaaGreatDoor
end

section
set_option linter.unusedSimpArgs false
/- Rows of ranges in memory: what lies there, what a store turns, what stays. -/
namespace Go.Proofs.YtmoabfpdlbngeaaGreatDoor
open Go.RowKit
set_option linter.unusedVariables false
/-- The cells of an address, of a range. -/
def adL (k : Nat) : List Value := [.int .u64 (hK k), .int .u64 (lK k), .bool true, .bool (sK k), .string ⟨#[]⟩]
def rcL (r : Nat × Nat) : List Value := [.int .u64 (hK r.1), .int .u64 (lK r.1), .bool true, .bool (sK r.1), .string ⟨#[]⟩, .int .u64 (hK r.2), .int .u64 (lK r.2), .bool true, .bool (sK r.2), .string ⟨#[]⟩]
/-- What turned: blocks of F, and new ones. -/
structure Chg (F : Nat → Prop) (w w' : World) : Prop where
  os : w'.os = w.os
  tape : w'.tape = w.tape
  output : w'.output = w.output
  size : w.heap.size ≤ w'.heap.size
  block : ∀ k, k < w.heap.size → ¬ F k → w'.heap[k]? = w.heap[k]?
theorem Chg.refl (F : Nat → Prop) (w : World) : Chg F w w := ⟨rfl, rfl, rfl, Nat.le_refl _, fun _ _ _ => rfl⟩
theorem Chg.trans {F : Nat → Prop} {a b c : World} (h : Chg F a b) (k : Chg F b c) : Chg F a c :=
  ⟨k.os.trans h.os, k.tape.trans h.tape, k.output.trans h.output, Nat.le_trans h.size k.size, fun b hb hF => (k.block b (Nat.lt_of_lt_of_le hb h.size) hF).trans (h.block b hb hF)⟩
theorem Chg.mono {F G : Nat → Prop} {a b : World} (h : Chg F a b) (hFG : ∀ k, k < a.heap.size → F k → G k) : Chg G a b :=
  ⟨h.os, h.tape, h.output, h.size, fun k hk hG => h.block k hk fun hF => hG (hFG k hk hF)⟩
theorem Chg.plus {F : Nat → Prop} {a b : World} (h : Chg F a b) (d : Nat) (os : Array Obj) : Chg F a (b.plus d os) :=
  h.trans ⟨rfl, rfl, rfl, by simp, fun k hk _ => World.heap_plus b d os hk⟩
theorem Chg.of_plus {F : Nat → Prop} {a b : World} (h : Plus a b) : Chg F a b := by
  obtain ⟨d, os, rfl⟩ := h
  exact (Chg.refl F a).plus d os
theorem Chg.alloc {F : Nat → Prop} {a b : World} (h : Chg F a b) (o : Obj) : Chg F a (b.alloc o) :=
  h.trans (.of_plus (Plus.alloc (Plus.refl b) o))
theorem Chg.drew {F : Nat → Prop} {a b : World} (h : Chg F a b) : Chg F a b.drew := ⟨h.os, h.tape, h.output, h.size, h.block⟩
theorem Chg.drewN {F : Nat → Prop} {a b : World} (h : Chg F a b) (n : Nat) : Chg F a (b.drewN n) := ⟨h.os, h.tape, h.output, h.size, h.block⟩
theorem Chg.setCell {F : Nat → Prop} {a b : World} (h : Chg F a b) (x : Addr) (v : Value) (hF : x.block < a.heap.size → F x.block) : Chg F a (b.setCell x v) :=
  ⟨h.os, h.tape, h.output, Nat.le_trans h.size (by simp [World.setCell]), fun k hk hk' => by
    rw [← h.block k hk hk']
    have : k ≠ x.block := fun e => hk' (e ▸ hF (e ▸ hk))
    simp [World.setCell, Array.getElem?_modify, Ne.symm this]⟩
theorem Chg.setCells {F : Nat → Prop} {a : World} (g : Nat) : ∀ (vs : List Value) (o : Nat) {b : World} (h : Chg F a b) (hF : g < a.heap.size → F g), Chg F a (b.setCells g o vs)
  | [], _, _, h, _ => h
  | v :: r, o, b, h, hF => by
    rw [World.setCells]
    exact Chg.setCells g r (o + 1) (h.setCell _ _ hF) hF
theorem Chg.plus_of {F : Nat → Prop} {a b : World} (h : Chg F a b) (hF : ∀ k, k < a.heap.size → ¬ F k) : Plus a b :=
  plus_of_below ⟨h.os, h.tape, h.output, h.size, fun k hk => h.block k hk (hF k hk)⟩
/-- Ranges of cells behind whatever stood still. -/
theorem rangeAt_chg {F : Nat → Prop} {w w' : World} (h : Chg F w w') {b o : Nat} {cs : List Value} (hr : w.rangeAt b o cs) (hb : ¬ F b) : w'.rangeAt b o cs := fun j v hv => by
  have := hr j v hv
  rw [World.cell?_of_block (h.block b (World.block_lt_of_cell? w _ this) hb)]; exact this
theorem there_chg {F : Nat → Prop} {w w' : World} (h : Chg F w w') {b o n : Nat} (hr : w.there b o n) (hb : ¬ F b) : w'.there b o n := fun j hj => by
  obtain ⟨h1, h2⟩ := hr j hj
  obtain ⟨u, hu⟩ := Option.isSome_iff_exists.1 h1
  have hb := h.block b (World.block_lt_of_cell? w _ hu) hb
  exact ⟨by rw [World.cell?_of_block hb]; exact h1, by rw [World.frozen?_of_block hb]; exact h2⟩
theorem rangeAt_plus {w : World} {b o : Nat} {cs : List Value} (hr : w.rangeAt b o cs) (d : Nat) (os : Array Obj) : (w.plus d os).rangeAt b o cs :=
  rangeAt_chg (F := fun _ => False) ((Chg.refl _ w).plus d os) hr id
theorem there_plus {w : World} {b o n : Nat} (hr : w.there b o n) (d : Nat) (os : Array Obj) : (w.plus d os).there b o n :=
  there_chg (F := fun _ => False) ((Chg.refl _ w).plus d os) hr id
theorem rangeAt_fst {w : World} {g o : Nat} {r : Nat × Nat} (h : w.rangeAt g o (rcL r)) : w.rangeAt g o (adL r.1) := fun j v hv => by
  refine h j v ?_
  have hj : j < 5 := (List.getElem?_eq_some_iff.1 hv).1
  rw [← hv]
  have e : j = 0 ∨ j = 1 ∨ j = 2 ∨ j = 3 ∨ j = 4 := by omega
  rcases e with e | e | e | e | e <;> subst e <;> simp [adL, rcL]
theorem rangeAt_snd {w : World} {g o : Nat} {r : Nat × Nat} (h : w.rangeAt g o (rcL r)) : w.rangeAt g (o + 5) (adL r.2) := fun j v hv => by
  have hj : j < 5 := (List.getElem?_eq_some_iff.1 hv).1
  rw [Nat.add_assoc]
  refine h (5 + j) v ?_
  rw [← hv]
  have e : j = 0 ∨ j = 1 ∨ j = 2 ∨ j = 3 ∨ j = 4 := by omega
  rcases e with e | e | e | e | e <;> subst e <;> simp [adL, rcL]
theorem rangeAt_pair {w : World} {g o : Nat} {r : Nat × Nat} (h : w.rangeAt g o (adL r.1)) (k : w.rangeAt g (o + 5) (adL r.2)) : w.rangeAt g o (rcL r) := fun j v hv => by
  have hj : j < 10 := (List.getElem?_eq_some_iff.1 hv).1
  by_cases hj5 : j < 5
  · refine h j v ?_
    rw [← hv]
    have e : j = 0 ∨ j = 1 ∨ j = 2 ∨ j = 3 ∨ j = 4 := by omega
    rcases e with e | e | e | e | e <;> subst e <;> simp [adL, rcL]
  · obtain ⟨i, rfl⟩ : ∃ i, j = 5 + i := ⟨j - 5, by omega⟩
    rw [← Nat.add_assoc]
    refine k i v ?_
    rw [← hv]
    have e : i = 0 ∨ i = 1 ∨ i = 2 ∨ i = 3 ∨ i = 4 := by omega
    rcases e with e | e | e | e | e <;> subst e <;> simp [adL, rcL]
/-- A row of n ranges from offset o on; it may be written. -/
structure RowAt (w : World) (g o n : Nat) (f : Nat → Nat × Nat) : Prop where
  rng : ∀ i, i < n → w.rangeAt g (o + i * 10) (rcL (f i))
  thr : ∀ i, i < n → w.there g (o + i * 10) 10
theorem RowAt.chg {F : Nat → Prop} {w w' : World} {g o n : Nat} {f : Nat → Nat × Nat} (h : RowAt w g o n f) (hc : Chg F w w') (hb : ¬ F g) : RowAt w' g o n f :=
  ⟨fun i hi => rangeAt_chg hc (h.rng i hi) hb, fun i hi => there_chg hc (h.thr i hi) hb⟩
theorem RowAt.plus {w : World} {g o n : Nat} {f : Nat → Nat × Nat} (h : RowAt w g o n f) (d : Nat) (os : Array Obj) : RowAt (w.plus d os) g o n f :=
  h.chg (F := fun _ => False) ((Chg.refl _ w).plus d os) id
theorem RowAt.alloc {w : World} {g o n : Nat} {f : Nat → Nat × Nat} (h : RowAt w g o n f) (ob : Obj) : RowAt (w.alloc ob) g o n f :=
  h.chg (F := fun _ => False) ((Chg.refl _ w).alloc ob) id
theorem RowAt.drew {w : World} {g o n : Nat} {f : Nat → Nat × Nat} (h : RowAt w g o n f) : RowAt w.drew g o n f :=
  h.chg (F := fun _ => False) ((Chg.refl _ w).drew) id
theorem RowAt.lt {w : World} {g o n : Nat} {f : Nat → Nat × Nat} (h : RowAt w g o n f) (hn : 0 < n) : g < w.heap.size :=
  World.block_lt_of_cell? w _ (h.rng 0 hn 0 _ rfl)
theorem RowAt.set {w : World} {g o n : Nat} {f : Nat → Nat × Nat} (h : RowAt w g o n f) (i : Nat) (hi : i < n) (r : Nat × Nat) : RowAt (w.setCells g (o + i * 10) (rcL r)) g o n (fun j => if j = i then r else f j) := by
  refine ⟨fun j hj => ?_, fun j hj => World.there_setCells (h.thr j hj) _ _ _⟩
  by_cases e : j = i
  · subst e
    simp only [if_true]
    exact World.rangeAt_setCells_same w g _ (rcL r) (h.thr j hj)
  · rw [if_neg e]
    exact World.rangeAt_setCells_apart (h.rng j hj) _ _ _ (by right; simp only [rcL, List.length_cons, List.length_nil]; omega)
theorem RowAt.congr {w : World} {g o n : Nat} {f f' : Nat → Nat × Nat} (h : RowAt w g o n f) (e : ∀ i, i < n → f i = f' i) : RowAt w g o n f' :=
  ⟨fun i hi => by rw [← e i hi]; exact h.rng i hi, h.thr⟩
theorem RowAt.drop {w : World} {g o n : Nat} {f : Nat → Nat × Nat} (h : RowAt w g o n f) (k m : Nat) (hk : k + m ≤ n) : RowAt w g (o + k * 10) m (fun i => f (k + i)) :=
  ⟨fun i hi => by have := h.rng (k + i) (by omega); rwa [Nat.add_mul, ← Nat.add_assoc] at this, fun i hi => by have := h.thr (k + i) (by omega); rwa [Nat.add_mul, ← Nat.add_assoc] at this⟩
/-- The loads and stores, as the walk meets them. -/
theorem under80 : Tryz.prog.underlying 80 = some (.struct ((Tryz.prog.underlying 80).elim #[] fun | .struct fs => fs | _ => #[])) := by kernel_rfl
theorem under78 : Tryz.prog.underlying 78 = some (.struct ((Tryz.prog.underlying 78).elim #[] fun | .struct fs => fs | _ => #[])) := by kernel_rfl
theorem size80 : (Tryz.prog.info? 80).map (·.size) = some 10 := by kernel_rfl
theorem size78 : (Tryz.prog.info? 78).map (·.size) = some 5 := by kernel_rfl
theorem load_rc {W : World} {g o : Nat} {r : Nat × Nat} (h : W.rangeAt g o (rcL r)) : (Instr.loadAt 80 (.pointer (some ⟨g, o, none⟩))).run Tryz.prog W = .ok (.agg #[.int .u64 (hK r.1), .int .u64 (lK r.1), .bool true, .bool (sK r.1), .string ⟨#[]⟩, .int .u64 (hK r.2), .int .u64 (lK r.2), .bool true, .bool (sK r.2), .string ⟨#[]⟩]) W :=
  run_loadAt_mid W g o 80 (rcL r) _ h under80 (by rfl) size80
theorem load_ad {W : World} {g o k : Nat} (h : W.rangeAt g o (adL k)) : (Instr.loadAt 78 (.pointer (some ⟨g, o, none⟩))).run Tryz.prog W = .ok (.agg #[.int .u64 (hK k), .int .u64 (lK k), .bool true, .bool (sK k), .string ⟨#[]⟩]) W :=
  run_loadAt_mid W g o 78 (adL k) _ h under78 (by rfl) size78
theorem store_rc {W : World} {g o : Nat} (r : Nat × Nat) (h : W.there g o 10) : (Instr.storeAt 80 (.pointer (some ⟨g, o, none⟩)) (.agg #[.int .u64 (hK r.1), .int .u64 (lK r.1), .bool true, .bool (sK r.1), .string ⟨#[]⟩, .int .u64 (hK r.2), .int .u64 (lK r.2), .bool true, .bool (sK r.2), .string ⟨#[]⟩])).run Tryz.prog W = .ok () (W.setCells g o (rcL r)) :=
  run_storeAt_mid W g o 80 #[.int .u64 (hK r.1), .int .u64 (lK r.1), .bool true, .bool (sK r.1), .string ⟨#[]⟩, .int .u64 (hK r.2), .int .u64 (lK r.2), .bool true, .bool (sK r.2), .string ⟨#[]⟩] h size80 (by simp [Value.oneCell'])
theorem store_ad {W : World} {g o : Nat} (k : Nat) (h : W.there g o 5) : (Instr.storeAt 78 (.pointer (some ⟨g, o, none⟩)) (.agg #[.int .u64 (hK k), .int .u64 (lK k), .bool true, .bool (sK k), .string ⟨#[]⟩])).run Tryz.prog W = .ok () (W.setCells g o (adL k)) :=
  run_storeAt_mid W g o 78 #[.int .u64 (hK k), .int .u64 (lK k), .bool true, .bool (sK k), .string ⟨#[]⟩] h size78 (by simp [Value.oneCell'])
/-- Cell by cell. -/
theorem rc_cells {W : World} {g o : Nat} {r : Nat × Nat} (h : W.rangeAt g o (rcL r)) : W.cell? ⟨g, o, none⟩ = some (.int .u64 (hK r.1)) ∧ W.cell? ⟨g, o + 1, none⟩ = some (.int .u64 (lK r.1)) ∧ W.cell? ⟨g, o + 2, none⟩ = some (.bool true) ∧ W.cell? ⟨g, o + 3, none⟩ = some (.bool (sK r.1)) ∧ W.cell? ⟨g, o + 4, none⟩ = some (.string ⟨#[]⟩) ∧ W.cell? ⟨g, o + 5, none⟩ = some (.int .u64 (hK r.2)) ∧ W.cell? ⟨g, o + 6, none⟩ = some (.int .u64 (lK r.2)) ∧ W.cell? ⟨g, o + 7, none⟩ = some (.bool true) ∧ W.cell? ⟨g, o + 8, none⟩ = some (.bool (sK r.2)) ∧ W.cell? ⟨g, o + 9, none⟩ = some (.string ⟨#[]⟩) :=
  ⟨h 0 _ rfl, h 1 _ rfl, h 2 _ rfl, h 3 _ rfl, h 4 _ rfl, h 5 _ rfl, h 6 _ rfl, h 7 _ rfl, h 8 _ rfl, h 9 _ rfl⟩
theorem ad_cells {W : World} {g o k : Nat} (h : W.rangeAt g o (adL k)) : W.cell? ⟨g, o, none⟩ = some (.int .u64 (hK k)) ∧ W.cell? ⟨g, o + 1, none⟩ = some (.int .u64 (lK k)) ∧ W.cell? ⟨g, o + 2, none⟩ = some (.bool true) ∧ W.cell? ⟨g, o + 3, none⟩ = some (.bool (sK k)) ∧ W.cell? ⟨g, o + 4, none⟩ = some (.string ⟨#[]⟩) :=
  ⟨h 0 _ rfl, h 1 _ rfl, h 2 _ rfl, h 3 _ rfl, h 4 _ rfl⟩
theorem rc_frozen {W : World} {g o : Nat} (h : W.there g o 10) : W.frozen? ⟨g, o, none⟩ = false ∧ W.frozen? ⟨g, o + 1, none⟩ = false ∧ W.frozen? ⟨g, o + 2, none⟩ = false ∧ W.frozen? ⟨g, o + 3, none⟩ = false ∧ W.frozen? ⟨g, o + 4, none⟩ = false ∧ W.frozen? ⟨g, o + 5, none⟩ = false ∧ W.frozen? ⟨g, o + 6, none⟩ = false ∧ W.frozen? ⟨g, o + 7, none⟩ = false ∧ W.frozen? ⟨g, o + 8, none⟩ = false ∧ W.frozen? ⟨g, o + 9, none⟩ = false :=
  ⟨(h 0 (by omega)).2, (h 1 (by omega)).2, (h 2 (by omega)).2, (h 3 (by omega)).2, (h 4 (by omega)).2, (h 5 (by omega)).2, (h 6 (by omega)).2, (h 7 (by omega)).2, (h 8 (by omega)).2, (h 9 (by omega)).2⟩
theorem RowAt.ltw {w : World} {g o n : Nat} {f : Nat → Nat × Nat} (h : RowAt w g o n f) (i : Nat) (hi : i < n) : g < w.heap.size := h.lt (by omega)
theorem setCells_rc (W : World) (g o : Nat) (r : Nat × Nat) : ((((((((((W.setCell ⟨g, o, none⟩ (.int .u64 (hK r.1))).setCell ⟨g, o + 1, none⟩ (.int .u64 (lK r.1))).setCell ⟨g, o + 2, none⟩ (.bool true)).setCell ⟨g, o + 3, none⟩ (.bool (sK r.1))).setCell ⟨g, o + 4, none⟩ (.string ⟨#[]⟩)).setCell ⟨g, o + 5, none⟩ (.int .u64 (hK r.2))).setCell ⟨g, o + 6, none⟩ (.int .u64 (lK r.2))).setCell ⟨g, o + 7, none⟩ (.bool true)).setCell ⟨g, o + 8, none⟩ (.bool (sK r.2))).setCell ⟨g, o + 9, none⟩ (.string ⟨#[]⟩)) = W.setCells g o (rcL r) := rfl
theorem setCells_ad (W : World) (g o k : Nat) : (((((W.setCell ⟨g, o, none⟩ (.int .u64 (hK k))).setCell ⟨g, o + 1, none⟩ (.int .u64 (lK k))).setCell ⟨g, o + 2, none⟩ (.bool true)).setCell ⟨g, o + 3, none⟩ (.bool (sK k))).setCell ⟨g, o + 4, none⟩ (.string ⟨#[]⟩)) = W.setCells g o (adL k) := rfl
end Go.Proofs.YtmoabfpdlbngeaaGreatDoor
end

section
namespace Go.Proofs.YtmoabfpdlbngeaaGreatDoor
open Go.RowKit
set_option maxHeartbeats 400000
set_option linter.unusedVariables false
set_option linter.unusedSimpArgs false
/-- A range that is valid. -/
structure okR (r : Nat × Nat) : Prop where
  a : okK r.1
  b : okK r.2
  s : sK r.1 = sK r.2
  le : r.1 ≤ r.2
def lessR (a b : Nat × Nat) : Bool := decide (a.1 < b.1 ∨ (a.1 = b.1 ∧ b.2 < a.2))
theorem k201 (a b : Nat × Nat) (oa : okR a) (ob : okR b) (x : Bool) (hx : lessR a b = x) (w : World) : Calls Tryz.prog 201 #[.agg #[.int .u64 (hK a.1), .int .u64 (lK a.1), .bool true, .bool (sK a.1), .string ⟨#[]⟩, .int .u64 (hK a.2), .int .u64 (lK a.2), .bool true, .bool (sK a.2), .string ⟨#[]⟩], .agg #[.int .u64 (hK b.1), .int .u64 (lK b.1), .bool true, .bool (sK b.1), .string ⟨#[]⟩, .int .u64 (hK b.2), .int .u64 (lK b.2), .bool true, .bool (sK b.2), .string ⟨#[]⟩]] w fun e w' => e = .returned (.bool x) ∧ Plus w w' := by
  have hq := c201 (hK a.1) (lK a.1) (sK a.1) (hK a.2) (lK a.2) (sK a.2) (hK b.1) (lK b.1) (sK b.1) (hK b.2) (lK b.2) (sK b.2) w
  have e : lessA (hK a.1) (lK a.1) (hK a.2) (lK a.2) (hK b.1) (lK b.1) (hK b.2) (lK b.2) (sK a.1) (sK a.2) (sK b.1) (sK b.2) = x := by
    rw [← hx]
    unfold lessA lessR
    rw [cmpK a.1 b.1 oa.a ob.a, ltK b.2 a.2 ob.b oa.b]
    by_cases p : a.1 < b.1
    · simp [p]
    · by_cases q : b.1 < a.1
      · simp [p, q]; omega
      · have : a.1 = b.1 := by omega
        simp [this]
  rw [e] at hq
  exact hq
def SameR (n : Nat) (f f0 : Nat → Nat × Nat) : Prop := ∀ r, (∃ j, j < n ∧ f j = r) ↔ (∃ j, j < n ∧ f0 j = r)
def SortR (i : Nat) (f : Nat → Nat × Nat) : Prop := ∀ a b, a < b → b < i → lessR (f b) (f a) = false
def InsR (i j : Nat) (f : Nat → Nat × Nat) : Prop := ∀ a b, a < b → b ≤ i → b ≠ j → lessR (f b) (f a) = false
def swapR (f : Nat → Nat × Nat) (j : Nat) : Nat → Nat × Nat := fun k => if k = j - 1 then f j else if k = j then f (j - 1) else f k
theorem SameR.refl (n : Nat) (f : Nat → Nat × Nat) : SameR n f f := fun _ => Iff.rfl
theorem SameR.swap {n : Nat} {f f0 : Nat → Nat × Nat} (h : SameR n f f0) (j : Nat) (hj : j < n) (h0 : 0 < j) : SameR n (swapR f j) f0 := fun r => by
  rw [← h r]
  constructor
  · rintro ⟨k, hk, rfl⟩
    unfold swapR
    split
    · exact ⟨j, hj, rfl⟩
    · split
      · exact ⟨j - 1, by omega, rfl⟩
      · exact ⟨k, hk, rfl⟩
  · rintro ⟨k, hk, rfl⟩
    by_cases p : k = j
    · subst p; exact ⟨k - 1, by omega, by simp [swapR]⟩
    · by_cases q : k = j - 1
      · subst q; exact ⟨j, hj, by unfold swapR; rw [if_neg (by omega), if_pos rfl]⟩
      · exact ⟨k, hk, by unfold swapR; rw [if_neg q, if_neg p]⟩
theorem InsR.start {i : Nat} {f : Nat → Nat × Nat} (h : SortR i f) : InsR i i f := fun a b hab hb hn => h a b hab (by omega)
theorem InsR.step {i j : Nat} {f : Nat → Nat × Nat} (h : InsR i j f) (h0 : 0 < j) (hj : j ≤ i) (hl : lessR (f j) (f (j - 1)) = true) : InsR i (j - 1) (swapR f j) := by
  intro a b hab hb hn
  have asym : lessR (f (j - 1)) (f j) = false := by
    simp only [lessR, decide_eq_true_eq, decide_eq_false_iff_not] at hl ⊢
    omega
  by_cases hbj : b = j
  · subst hbj
    by_cases ha : a = b - 1
    · subst ha; unfold swapR; rw [if_neg (by omega), if_pos rfl, if_pos rfl]; exact asym
    · unfold swapR; rw [if_neg (by omega), if_pos rfl, if_neg ha, if_neg (by omega)]
      exact h a (b - 1) (by omega) (by omega) (by omega)
  · have eb : swapR f j b = f b := by unfold swapR; rw [if_neg hn, if_neg hbj]
    rw [eb]
    by_cases ha : a = j - 1
    · subst ha
      have : swapR f j (j - 1) = f j := by unfold swapR; rw [if_pos rfl]
      rw [this]
      exact h j b (by omega) hb hbj
    · by_cases haj : a = j
      · subst haj
        have : swapR f a a = f (a - 1) := by unfold swapR; rw [if_neg (by omega), if_pos rfl]
        rw [this]
        exact h (a - 1) b (by omega) hb hbj
      · have : swapR f j a = f a := by unfold swapR; rw [if_neg ha, if_neg haj]
        rw [this]
        exact h a b hab hb hbj
theorem lessR_trans {a b c : Nat × Nat} (h : lessR b a = false) (k : lessR c b = false) : lessR c a = false := by
  simp only [lessR, decide_eq_false_iff_not] at *
  omega
theorem InsR.done {i j : Nat} {f : Nat → Nat × Nat} (h : InsR i j f) (hj : j ≤ i) (hl : 0 < j → lessR (f j) (f (j - 1)) = false) : SortR (i + 1) f := by
  intro a b hab hb
  by_cases hbj : b = j
  · subst hbj
    have h1 := hl (by omega)
    by_cases ha : a = b - 1
    · subst ha; exact h1
    · exact lessR_trans (h a (b - 1) (by omega) (by omega) (by omega)) h1
  · exact h a b hab (by omega) hbj
theorem RowAt.swap {w : World} {g o n : Nat} {f : Nat → Nat × Nat} (h : RowAt w g o n f) (j : Nat) (h0 : 0 < j) (hj : j < n) : RowAt ((w.setCells g (o + j * 10) (rcL (f (j - 1)))).setCells g (o + (j - 1) * 10) (rcL (f j))) g o n (swapR f j) := by
  refine ((h.set j hj (f (j - 1))).set (j - 1) (by omega) (f j)).congr fun k _ => ?_
  unfold swapR
  by_cases p : k = j - 1 <;> by_cases q : k = j <;> simp [p, q]
set_option maxRecDepth 4000 in
theorem c185 (g o n c : Nat) (f0 : Nat → Nat × Nat) (hn : n ≤ 1000000000) (w : World) (hr : RowAt w g o n f0) (hok : ∀ i, i < n → okR (f0 i)) :
    Calls Tryz.prog 185 #[.slice (some ⟨g, o, none⟩) n c] w fun e w' => e = .returned (.tuple #[]) ∧ ∃ f, Chg (· = g) w w' ∧ RowAt w' g o n f ∧ SameR n f f0 ∧ SortR n f := by
  have HOK : ∀ f, SameR n f f0 → ∀ i, i < n → okR (f i) := fun f hs i hi => by
    obtain ⟨j, hj, e⟩ := (hs (f i)).1 ⟨i, hi, rfl⟩
    rw [← e]; exact hok j hj
  go_enter Tryz.func185, Tryz.ntmps185
  go_wp2_with fail
  go_loopw [2] (fun t2 wr => ∃ (i : Nat) (f : Nat → Nat × Nat), t2 = .int .i64 i ∧ 1 ≤ i ∧ (i ≤ n ∨ i = 1) ∧ Hid (Chg (· = g) w wr ∧ RowAt wr g o n f ∧ SameR n f f0 ∧ SortR i f)) (fun t2 _ => n - (intOf t2).toNat)
  case atStart => exact ⟨1, f0, by simp, by omega, by omega, Chg.refl _ _, hr, SameR.refl _ _, fun a b _ _ => by omega⟩
  case round =>
    obtain ⟨i, f, rfl, h1, h2, H⟩ := hrel
    by_cases q : i < n
    · go_wp2_with fail
      obtain ⟨wo, rfl⟩ : ∃ wo : World, wo = wr := ⟨_, rfl⟩
      go_loopw [3] (fun t3 wr => ∃ (j : Nat) (f : Nat → Nat × Nat), t3 = .int .i64 j ∧ j ≤ i ∧ Hid (Chg (· = g) w wr ∧ RowAt wr g o n f ∧ SameR n f f0 ∧ InsR i j f)) (fun t3 _ => (intOf t3).toNat)
      case atStart =>
        obtain ⟨H1, H2, H3, H4⟩ := H.out
        exact ⟨i, f, rfl, by omega, ⟨H1, H2, H3, InsR.start H4⟩⟩
      case round =>
        clear H f
        obtain ⟨j, f, rfl, h3, H⟩ := hrel
        have OK : ∀ i, i < n → okR (f i) := HOK f H.out.2.2.1
        by_cases h0 : 0 < j
        · cases HX : lessR (f j) (f (j - 1))
          · have hj : j < n := by omega
            have hg : g < wr.heap.size := H.out.2.1.lt (by omega)
            obtain ⟨ca0, ca1, ca2, ca3, ca4, ca5, ca6, ca7, ca8, ca9⟩ := rc_cells (H.out.2.1.rng j hj)
            obtain ⟨cb0, cb1, cb2, cb3, cb4, cb5, cb6, cb7, cb8, cb9⟩ := rc_cells (H.out.2.1.rng (j - 1) (by omega))
            go_wp2_with fail
            refine wp_region_plus (by kernel_rfl) (by kernel_rfl) ?_
            repeat (go_big_quiet_step (first | (go_at_call 201; exact Calls.plus_of (k201 (f j) (f (j - 1)) (OK _ (by omega)) (OK _ (by omega)) _ HX _))))
            refine wpQuiet_nil ?_
            intro _ hq
            obtain ⟨⟨dq, oq⟩, rfl⟩ := hq
            go_wp2_with fail
            go_roundw
            case rel =>
              obtain ⟨H1, H2, H3, H4⟩ := H.out
              exact ⟨i + 1, f, rfl, by omega, by omega, ⟨H1.plus _ _, H2.plus _ _, H3, InsR.done H4 h3 (fun _ => HX)⟩⟩
            case measure => simp [intOf]; omega
          · have hj : j < n := by omega
            have hg : g < wr.heap.size := H.out.2.1.lt (by omega)
            obtain ⟨ca0, ca1, ca2, ca3, ca4, ca5, ca6, ca7, ca8, ca9⟩ := rc_cells (H.out.2.1.rng j hj)
            obtain ⟨cb0, cb1, cb2, cb3, cb4, cb5, cb6, cb7, cb8, cb9⟩ := rc_cells (H.out.2.1.rng (j - 1) (by omega))
            go_wp2_with fail
            refine wp_region_plus (by kernel_rfl) (by kernel_rfl) ?_
            repeat (go_big_quiet_step (first | (go_at_call 201; exact Calls.plus_of (k201 (f j) (f (j - 1)) (OK _ (by omega)) (OK _ (by omega)) _ HX _))))
            refine wpQuiet_nil ?_
            intro _ hq
            obtain ⟨⟨dq, oq⟩, rfl⟩ := hq
            obtain ⟨fa0, fa1, fa2, fa3, fa4, fa5, fa6, fa7, fa8, fa9⟩ := rc_frozen (H.out.2.1.thr j hj)
            obtain ⟨fb0, fb1, fb2, fb3, fb4, fb5, fb6, fb7, fb8, fb9⟩ := rc_frozen (H.out.2.1.thr (j - 1) (by omega))
            go_wp2_with fail
            go_region
            go_wp2_with fail
            rw [setCells_rc, setCells_rc]
            go_roundw
            case rel =>
              obtain ⟨H1, H2, H3, H4⟩ := H.out
              exact ⟨j - 1, swapR f j, congrArg _ (by omega), by omega, ⟨((H1.setCells g _ _ (fun _ => rfl)).setCells g _ _ (fun _ => rfl)).plus _ _, (H2.swap j h0 hj).plus _ _, H3.swap j hj h0, H4.step h0 h3 HX⟩⟩
            case measure => simp [intOf]; omega
        · have hj0 : j = 0 := by omega
          subst hj0
          go_wp2_with fail
          refine wp_region_plus (by kernel_rfl) (by kernel_rfl) ?_
          repeat (go_big_quiet_step (fail))
          refine wpQuiet_nil ?_
          intro _ hq
          obtain ⟨⟨dq, oq⟩, rfl⟩ := hq
          go_wp2_with fail
          go_roundw
          case rel =>
            obtain ⟨H1, H2, H3, H4⟩ := H.out
            exact ⟨i + 1, f, rfl, by omega, by omega, ⟨H1.plus _ _, H2.plus _ _, H3, InsR.done H4 h3 (fun p => absurd p (by omega))⟩⟩
          case measure => simp [intOf]; omega
    · go_wp2_with fail
      obtain ⟨H1, H2, H3, H4⟩ := H.out
      go_end0
      exact ⟨rfl, f, H1, H2, H3, fun a b hab hb => H4 a b hab (by omega)⟩
end Go.Proofs.YtmoabfpdlbngeaaGreatDoor
end
