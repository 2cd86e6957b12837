/-
  Part of the proofs on the laws of pub-addresssets: joined texts (Base, A1, A2).
-/
import Derived.Test.YtmoabfpdlbngeaaGreatDoorProg
import Derived.WalkKit
import Derived.WalkSpells
import Derived.WalkLawsBesides
import Derived.Deep.QuietTactic
import Derived.BigQuiet
import Derived.StillTail
import Derived.Deep.RegionHeld3
import Derived.Deep.DrawnRows
import Derived.Deep.Light
import Derived.Deep.DeepCutAuto
import Derived.Deep.CutBlock
import Derived.Deep.LoopGhost
section
/- The words of these proofs: a world with new blocks and draws ('plus'), and what a call that only makes memory leaves ('Plus'). -/
namespace Go
/-- The world with blocks laid behind its heap; the count of draws is whatever it is. -/
def World.plus (w : World) (d : Nat) (os : Array Obj) : World := { w with heap := w.heap ++ os, drawn := d }
section
variable (w : World) (d d' : Nat) (os os' : Array Obj)
@[simp, go_sem] theorem World.size_plus : (w.plus d os).heap.size = w.heap.size + os.size := by simp [World.plus]
@[simp, go_sem] theorem World.tape_plus : (w.plus d os).tape = w.tape := rfl
@[simp, go_sem] theorem World.drew_plus : (w.plus d os).drew = w.plus (d + 1) os := rfl
@[simp, go_sem] theorem World.drewN_plus (n : Nat) : (w.plus d os).drewN n = w.plus (d + n) os := rfl
@[simp, go_sem] theorem World.plus_drew : w.drew.plus d os = w.plus d os := rfl
@[simp, go_sem] theorem World.plus_drewN (n : Nat) : (w.drewN n).plus d os = w.plus d os := rfl
theorem World.plus_plus : (w.plus d os).plus d' os' = w.plus d' (os ++ os') := by simp [World.plus, Array.append_assoc]
theorem World.heap_plus {n : Nat} (hn : n < w.heap.size) : (w.plus d os).heap[n]? = w.heap[n]? := by
  simp [World.plus, Array.getElem?_append, hn]
@[go_sem] theorem World.cell?_plus (n i : Nat) (hn : n < w.heap.size) : (w.plus d os).cell? ⟨n, i, none⟩ = w.cell? ⟨n, i, none⟩ := by
  simp only [World.cell?, World.heap_plus w d os hn]
@[go_sem] theorem World.frozen?_plus (n i : Nat) (hn : n < w.heap.size) : (w.plus d os).frozen? ⟨n, i, none⟩ = w.frozen? ⟨n, i, none⟩ := by
  simp only [World.frozen?, World.heap_plus w d os hn]
@[go_sem] theorem World.setCell_plus (n i : Nat) (v : Value) (hn : n < w.heap.size) : (w.plus d os).setCell ⟨n, i, none⟩ v = (w.setCell ⟨n, i, none⟩ v).plus d os := by
  unfold World.setCell World.plus
  congr 1
  apply Array.ext_getElem?
  intro k
  simp only [Array.getElem?_modify, Array.getElem?_append, Array.size_modify]
  by_cases hk : k < w.heap.size
  · simp [hk]
  · have : n ≠ k := by omega
    simp [hk, this]
/-! The same with the condition in the term, for a walk that settles it by arithmetic. -/
def World.hold (w : World) : World := w
@[go_sem low] theorem World.cell?_plus_if (n i : Nat) : (w.plus d os).cell? ⟨n, i, none⟩ = (if n < w.heap.size then w else (w.plus d os).hold).cell? ⟨n, i, none⟩ := by
  split
  · rename_i h; exact World.cell?_plus w d os n i h
  · rfl
@[go_sem low] theorem World.frozen?_plus_if (n i : Nat) : (w.plus d os).frozen? ⟨n, i, none⟩ = (if n < w.heap.size then w else (w.plus d os).hold).frozen? ⟨n, i, none⟩ := by
  split
  · rename_i h; exact World.frozen?_plus w d os n i h
  · rfl
@[go_sem low] theorem World.setCell_plus_if (n i : Nat) (v : Value) : (w.plus d os).setCell ⟨n, i, none⟩ v = if n < w.heap.size then (w.setCell ⟨n, i, none⟩ v).plus d os else (w.plus d os).hold.setCell ⟨n, i, none⟩ v := by
  split
  · rename_i h; exact World.setCell_plus w d os n i v h
  · rfl
@[go_sem low] theorem World.cell?_alloc_if (o : Obj) (n i : Nat) : (w.alloc o).cell? ⟨n, i, none⟩ = (if n < w.heap.size then w else (w.alloc o).hold).cell? ⟨n, i, none⟩ := by
  split
  · rename_i h; exact World.cell?_alloc_past o n i h
  · rfl
@[go_sem low] theorem World.frozen?_alloc_if (o : Obj) (n i : Nat) : (w.alloc o).frozen? ⟨n, i, none⟩ = (if n < w.heap.size then w else (w.alloc o).hold).frozen? ⟨n, i, none⟩ := by
  split
  · rename_i h; exact World.frozen?_alloc_past o n i h
  · rfl
@[go_sem low] theorem World.setCell_alloc_if (o : Obj) (n i : Nat) (v : Value) : (w.alloc o).setCell ⟨n, i, none⟩ v = if n < w.heap.size then (w.setCell ⟨n, i, none⟩ v).alloc o else (w.alloc o).hold.setCell ⟨n, i, none⟩ v := by
  split
  · rename_i h; exact World.setCell_alloc_past o n i v h
  · rfl
end
/-- New blocks and draws, no more. -/
def Plus (w w' : World) : Prop := ∃ d os, w' = w.plus d os
theorem Plus.refl (w : World) : Plus w w := ⟨w.drawn, #[], by simp [World.plus]⟩
theorem Plus.plus {w w' : World} (h : Plus w w') (d : Nat) (os : Array Obj) : Plus w (w'.plus d os) := by
  obtain ⟨_, _, rfl⟩ := h
  exact ⟨_, _, World.plus_plus ..⟩
theorem Plus.alloc {w w' : World} (h : Plus w w') (o : Obj) : Plus w (w'.alloc o) := by
  obtain ⟨d, os, rfl⟩ := h
  exact ⟨d, os.push o, by simp [World.plus, World.alloc]⟩
theorem Plus.drew {w w' : World} (h : Plus w w') : Plus w w'.drew := by
  obtain ⟨d, os, rfl⟩ := h
  exact ⟨d + 1, os, rfl⟩
theorem Plus.drewN {w w' : World} (h : Plus w w') (n : Nat) : Plus w (w'.drewN n) := by
  obtain ⟨d, os, rfl⟩ := h
  exact ⟨d + n, os, rfl⟩
theorem Plus.trans {a b c : World} (h : Plus a b) (k : Plus b c) : Plus a c := by
  obtain ⟨d, os, rfl⟩ := k
  exact h.plus d os
theorem Plus.below {w w' : World} (h : Plus w w') : RowKit.Below w.heap.size w w' := by
  obtain ⟨d, os, rfl⟩ := h
  exact ⟨rfl, rfl, rfl, by simp, fun k hk => World.heap_plus w d os hk⟩
theorem plus_of_below {w w' : World} (h : RowKit.Below w.heap.size w w') : Plus w w' := by
  refine ⟨w'.drawn, w'.heap.extract w.heap.size w'.heap.size, ?_⟩
  obtain ⟨heap', tape', drawn', os', output'⟩ := w'
  have e1 : os' = w.os := h.os
  have e2 : tape' = w.tape := h.tape
  have e3 : output' = w.output := h.output
  have hs : w.heap.size ≤ heap'.size := h.size
  have hb : ∀ k, k < w.heap.size → heap'[k]? = w.heap[k]? := h.block
  subst e1 e2 e3
  have eh : heap' = w.heap ++ heap'.extract w.heap.size heap'.size := by
    apply Array.ext_getElem?
    intro k
    by_cases hk : k < w.heap.size
    · rw [Array.getElem?_append_left hk]; exact hb k hk
    · rw [Array.getElem?_append_right (by omega), Array.getElem?_extract]
      by_cases hk2 : k < heap'.size
      · rw [if_pos (by omega)]; congr 1; omega
      · rw [if_neg (by omega), Array.getElem?_eq_none (by omega)]
  simp only [World.plus]
  congr 1
/-- What a drawn region's quiet operations may add: as a structure, so that simp does not take it apart. -/
structure PD where
  d : Nat
  os : Array Obj
  deriving Inhabited
theorem wp_region_plus {P : Program} {id : Nat} {Q : Exit → Act → World → Prop} {a : Act} {w : World} {l : List Oper} (hm : P.follows .mixedOrders = true) (hB : Region.lexB .any l.toArray = true)
    (h : wpQuiet P l.toArray (fun w' => ∃ p : PD, w' = w.plus p.d p.os) (fun a' => ∀ w', (∃ p : PD, w' = w.plus p.d p.os) → Q .normal a' w') l a) : (Code.region id l.toArray true).wp P Q a w :=
  wp_region_quiet (C := fun w' => ∃ p : PD, w' = w.plus p.d p.os) hm hB ⟨⟨w.drawn + 1, #[]⟩, by simp [World.plus]⟩ (by simpa using h)
theorem Calls.plus_of {P : Program} {f : FuncId} {args : Array Value} {w : World} {d : Nat} {os : Array Obj} {v : Value}
    (h : Calls P f args (w.plus d os) fun e w' => e = .returned v ∧ Plus (w.plus d os) w') : Calls P f args (w.plus d os) fun e w'' => e = .returned v ∧ ∃ p : PD, w'' = w.plus p.d p.os :=
  h.mono fun _ _ ⟨he, d', os', hw⟩ => ⟨he, ⟨d', os ++ os'⟩, by rw [hw]; exact World.plus_plus ..⟩
/-- What was there reads as it did. -/
abbrev KS (W0 w' : World) : Prop := W0.heap.size ≤ w'.heap.size ∧ ∀ b o, b < W0.heap.size → w'.cell? ⟨b, o, none⟩ = W0.cell? ⟨b, o, none⟩
theorem KS.refl (w : World) : KS w w := ⟨Nat.le_refl _, fun _ _ _ => rfl⟩
theorem KS.drew {a w : World} (h : KS a w) : KS a w.drew := h
theorem KS.drewN {a w : World} (h : KS a w) (n : Nat) : KS a (w.drewN n) := h
theorem KS.plus {a w : World} (h : KS a w) (d : Nat) (os : Array Obj) : KS a (w.plus d os) :=
  ⟨by have := h.1; simp; omega, fun b o hb => (World.cell?_plus w d os b o (by have := h.1; omega)).trans (h.2 b o hb)⟩
theorem KS.alloc {a w : World} (h : KS a w) (x : Obj) : KS a (w.alloc x) :=
  ⟨by have := h.1; simp; omega, fun b o hb => (World.cell?_alloc_lt w x ⟨b, o, none⟩ (by have := h.1; simp only []; omega)).trans (h.2 b o hb)⟩
theorem KS.setCell {a w : World} (h : KS a w) (g i : Nat) (v : Value) (hg : a.heap.size ≤ g) : KS a (w.setCell ⟨g, i, none⟩ v) :=
  ⟨by have := h.1; simp; omega, fun b o hb => (World.cell?_setCell_other w ⟨g, i, none⟩ ⟨b, o, none⟩ v (fun e => by injection e; omega)).trans (h.2 b o hb)⟩
/-! A drawn region whose first operations are quiet in a class of worlds and whose last ones wait for all before them: one walk in the order of the text. -/
section
variable {P : Program} {ops : Array Oper} {md : Region.Mode} {C : World → Prop}
def wpAnyLQ (P : Program) (md : Region.Mode) (ops : Array Oper) (C : World → Prop) (n : Nat) (L : Array Bool → Act → Prop) : Nat → Array Bool → Act → Prop
  | 0, listed, a => L listed a
  | f + 1, listed, a =>
    Region.ready md ops listed ≠ [] ∧ ∀ i ∈ Region.ready md ops listed, i < n ∧ qOp P ops C i (wpAnyLQ P md ops C n L f (listed.setIfInBounds i true)) a
theorem wpAny_of_headQ {n g : Nat} {L : Array Bool → Act → Prop} {Q' : Exit → Act → World → Prop} (hL : ∀ listed a w, C w → L listed a → wpAny P md ops Q' g listed a w) :
    ∀ (f : Nat) (listed : Array Bool) (a : Act) (w : World), C w → wpAnyLQ P md ops C n L f listed a → wpAny P md ops Q' (f + g) listed a w
  | 0, listed, a, w, hw, h => by rw [Nat.zero_add]; exact hL _ _ _ hw h
  | f + 1, listed, a, w, hw, h => by
    rw [show f + 1 + g = (f + g) + 1 by omega]
    exact ⟨fun h0 => absurd h0 h.1, fun i hi => wpOp_of_qOp hw (fun a' w' hw' h' => wpAny_of_headQ hL f _ a' w' hw' h') (h.2 i hi).2⟩
theorem wpAnyLQ_first {n i : Nat} {oi : Oper} {v : Value} {L : Array Bool → Act → Prop} (hi : ops[i]? = some oi) (hsel : ∀ (j : Nat) (o : Oper) cs b, ops[j]? = some o → o.op ≠ .select cs b)
    (hs : Region.sinkB md ops n = true) (hc : Region.chainB md ops n = true) (hn : n < ops.size) (hin : i < n)
    (hdone : ∀ listed a, L listed a → ∀ j ∈ Region.ready md ops listed, n ≤ j) :
    ∀ (f : Nat) (listed : Array Bool) (a : Act), HeadInv md ops n listed →
      (∀ j oj, ops[j]? = some oj → j ≠ i → listed.getD j true = false → (∀ e ∈ oj.after, Region.binds md e = true → e.on ≠ i) → oi.apart ops oj = true) →
      i ∈ Region.ready md ops listed → YieldsIn P ops C oi v a →
      wpAnyLQ P md ops C n L f (listed.setIfInBounds i true) (a.put oi.dst v) → wpAnyLQ P md ops C n L (f + 1) listed a := by
  intro f
  induction f with
  | zero =>
    intro listed a inv _ hr hy H
    have hun := (mem_ready.1 hr).1
    refine ⟨fun h => (by rw [h] at hr; cases hr), fun j hj => ?_⟩
    have hjn : j < n := by
      rcases Nat.lt_or_ge j n with h | h
      · exact h
      · exact absurd hj (tail_waits hs hc hn inv _ i rfl hin hun j h)
    refine ⟨hjn, ?_⟩
    by_cases hji : j = i
    · subst hji; exact hy.qOp hi H
    · have := hdone _ _ H j (ready_mono hj hji)
      omega
  | succ f ih =>
    intro listed a inv hfree hr hy H
    have hun := (mem_ready.1 hr).1
    refine ⟨fun h => (by rw [h] at hr; cases hr), fun j hj => ?_⟩
    have hjn : j < n := by
      rcases Nat.lt_or_ge j n with h | h
      · exact h
      · exact absurd hj (tail_waits hs hc hn inv _ i rfl hin hun j h)
    refine ⟨hjn, ?_⟩
    by_cases hji : j = i
    · subst hji; exact hy.qOp hi H
    · have h1 := (H.2 j (ready_mono hj hji)).2
      obtain ⟨hjun, oj, hoj, hall⟩ := mem_ready.1 hj
      have hnot : ∀ e ∈ oj.after, Region.binds md e = true → e.on ≠ i := fun e he hb heq => by
        have h1 := hall e he hb
        rw [heq, getD_both hun] at h1
        cases h1
      have h2 := qOp_put hoj (hfree j oj hoj hji hjun hnot) (fun cs b => hsel i oi cs b hi) (fun cs b => hsel j oj cs b hoj) hy h1
      have hfree' : ∀ k ok, ops[k]? = some ok → k ≠ i → (listed.setIfInBounds j true).getD k true = false →
          (∀ e ∈ ok.after, Region.binds md e = true → e.on ≠ i) → oi.apart ops ok = true := fun k ok hk hki hun hno => by
        refine hfree k ok hk hki ?_ hno
        by_cases hjk : j = k
        · subst hjk; exact hjun
        · rw [getD_set_ne true hjk] at hun; exact hun
      refine qOp_mono (fun a' h3 => ih (listed.setIfInBounds j true) a' (inv.set hj hjn) hfree' (ready_mono hr (Ne.symm hji)) h3.1 ?_) h2
      rw [Array.setIfInBounds_comm _ _ hji]
      exact h3.2
theorem wpAnyLQ_lex {n g : Nat} {Lq : Act → Prop} (hsel : Region.noSelect ops = true) (hs : Region.sinkB md ops n = true) (hc : Region.chainB md ops n = true) (hn : n < ops.size) :
    ∀ (l : List Oper) (k : Nat) (listed : Array Bool) (a : Act), (∀ j, j < l.length → l[j]? = ops[k + j]?) → k + l.length = n → HeadInv md ops n listed →
    Region.lexHead md ops g l.length k listed = true → wpQuiet P ops C Lq l a →
    wpAnyLQ P md ops C n (fun listed' a' => Region.seqB md ops g n listed' = true ∧ Lq a') l.length listed a
  | [], k, listed, a, _, hk, _, hB, h => by
    have : k = n := by simpa using hk
    subst this
    exact ⟨by simpa [Region.lexHead] using hB, h⟩
  | o :: l, k, listed, a, hl, hk, inv, hB, h => by
    have h0 : ops[k]? = some o := by simpa using (hl 0 (by simp)).symm
    simp only [List.length_cons, Region.lexHead, Bool.and_eq_true] at hB
    obtain ⟨⟨hr, hf⟩, hB'⟩ := hB
    have hkn : k < n := by simp only [List.length_cons] at hk; omega
    have hr' : k ∈ Region.ready md ops listed := by simpa using hr
    have hst : qOp P ops C k (wpQuiet P ops C Lq l) a := by unfold qOp; simp only [h0]; exact h
    obtain ⟨v, hy, hK⟩ := yieldsIn_of_qOp h0 hst
    exact wpAnyLQ_first h0 (Region.noSelect_spec hsel) hs hc hn hkn (fun listed' a' hL => seqB_ready hL.1) l.length listed a inv (Region.free_spec h0 hf) hr' hy
      (wpAnyLQ_lex hsel hs hc hn l (k + 1) _ _ (fun j hj => by have := hl (j + 1) (by simp; omega); simpa [Nat.add_assoc, Nat.add_comm 1 j] using this) (by simp only [List.length_cons] at hk; omega) (inv.set hr' hkn) hB' hK)
theorem wp_region_quiet_tail {id : Nat} {Q : Exit → Act → World → Prop} {a : Act} {w : World} {l : List Oper} (n : Nat) (hm : P.follows .mixedOrders = true) (hB : Region.lexTailB .any l.toArray n = true) (hC : C { w with drawn := w.drawn + 1 })
    (h : wpQuiet P l.toArray C (fun a' => ∀ w', C w' → wpList P l.toArray Q (l.drop n) a' w') (l.take n) a) : (Code.region id l.toArray true).wp P Q a w := by
  simp only [Region.lexTailB, Bool.and_eq_true, decide_eq_true_eq] at hB
  obtain ⟨⟨⟨⟨hsel, hn⟩, hs⟩, hc⟩, hlex⟩ := hB
  have hn' : n < l.length := by simpa using hn
  have htl : (l.take n).length = n := by simp; omega
  have hdl : (l.drop n).length = l.toArray.size - n := by simp
  have inv0 : HeadInv .any l.toArray n (Array.replicate l.toArray.size false) :=
    ⟨by simp, fun j oj _ hl => (by rw [getD_replicate_false] at hl; cases hl), fun t _ ht => getD_in (by simpa using ht) (getD_replicate_false _ _)⟩
  have H := wpAnyLQ_lex (md := .any) (g := l.toArray.size - n) hsel hs hc hn (l.take n) 0 _ a (fun j hj => by
    have hj' : j < n := by rw [htl] at hj; exact hj
    simp [hj']) (by simpa using htl) inv0 (by rw [htl]; exact hlex) h
  refine wp_region_any hm ?_
  have := wpAny_of_headQ (Q' := Q) (g := l.toArray.size - n) (fun listed a' w' hw' hL => by
    have := wpAny_of_seq (md := .any) (Q' := Q) (l.drop n) n listed a' w' (fun j => by simp [List.getElem?_drop]) (by rw [hdl]; exact hL.1) (hL.2 w' hw')
    rwa [hdl] at this) _ _ _ _ hC H
  rw [htl, show n + (l.toArray.size - n) = l.toArray.size by omega] at this
  exact this
end
theorem wp_region_plus_tail {P : Program} {id : Nat} {Q : Exit → Act → World → Prop} {a : Act} {w : World} {l : List Oper} (n : Nat) (hm : P.follows .mixedOrders = true) (hB : Region.lexTailB .any l.toArray n = true)
    (h : wpQuiet P l.toArray (fun w' => ∃ p : PD, w' = w.plus p.d p.os) (fun a' => ∀ w', (∃ p : PD, w' = w.plus p.d p.os) → wpList P l.toArray Q (l.drop n) a' w') (l.take n) a) : (Code.region id l.toArray true).wp P Q a w :=
  wp_region_quiet_tail (C := fun w' => ∃ p : PD, w' = w.plus p.d p.os) n hm hB ⟨⟨w.drawn + 1, #[]⟩, by simp [World.plus]⟩ h
theorem Calls.plus_same {P : Program} {f : FuncId} {args : Array Value} {w : World} {d : Nat} {os : Array Obj} {v : Value}
    (h : Calls P f args (w.plus d os) fun e w' => e = .returned v ∧ w.plus d os = w') : Calls P f args (w.plus d os) fun e w'' => e = .returned v ∧ ∃ p : PD, w'' = w.plus p.d p.os :=
  h.mono fun _ _ ⟨he, hw⟩ => ⟨he, ⟨d, os⟩, hw.symm⟩
end Go
end

section
namespace Go.Proofs.YtmoabfpdlbngeaaGreatDoor
open Go.RowKit
set_option maxHeartbeats 400000
theorem c127 (w : World) : Calls Tryz.prog 127 #[] w fun e w' => e = .returned (.agg #[.bool false, .bool false, .string ⟨#[]⟩]) ∧ Plus w w' := by
  go_enter Tryz.func127, Tryz.ntmps127
  go_wp2
  exact bodyPost_ret (v := .agg #[.bool false, .bool false, .string ⟨#[]⟩]) (by simp [results, Tryz.results127, go_sem]) rfl ⟨rfl, (Plus.refl _).alloc _⟩
theorem c128 (w : World) : Calls Tryz.prog 128 #[] w fun e w' => e = .returned (.agg #[.bool true, .bool false, .string ⟨#[]⟩]) ∧ Plus w w' := by
  go_enter Tryz.func128, Tryz.ntmps128
  go_wp2
  exact bodyPost_ret (v := .agg #[.bool true, .bool false, .string ⟨#[]⟩]) (by simp [results, Tryz.results128, go_sem]) rfl ⟨rfl, (Plus.refl _).alloc _⟩
theorem c132 (w : World) : Calls Tryz.prog 132 #[] w fun e w' => e = .returned (.agg #[.bool true, .bool true, .string ⟨#[]⟩]) ∧ Plus w w' := by
  go_enter Tryz.func132, Tryz.ntmps132
  go_wp2
  exact bodyPost_ret (v := .agg #[.bool true, .bool true, .string ⟨#[]⟩]) (by simp [results, Tryz.results132, go_sem]) rfl ⟨rfl, (Plus.refl _).alloc _⟩
theorem c97 (h l : Int) (s : Bool) (w : World) : Calls Tryz.prog 97 #[(.agg #[.int .u64 h, .int .u64 l, .bool true, .bool s, .string ⟨#[]⟩])] w fun e w' => e = .returned (.int .i64 (cond s 128 32)) ∧ Plus w w' := by
  cases s
  all_goals
    go_enter Tryz.func97, Tryz.ntmps97
    go_wp2_with (first | (go_at_call 127; (with_reducible refine (c127 _).mono ?_); rintro e w' ⟨rfl, dd, oo, rfl⟩) | (go_at_call 128; (with_reducible refine (c128 _).mono ?_); rintro e w' ⟨rfl, dd, oo, rfl⟩))
    go_ret
    exact ⟨rfl, by repeat (first | exact Plus.refl _ | refine Plus.alloc ?_ _ | refine Plus.plus ?_ _ _ | refine Plus.drew ?_ | refine Plus.drewN ?_ _)⟩
theorem c121 (h l : Int) (s : Bool) (w : World) : Calls Tryz.prog 121 #[(.agg #[.int .u64 h, .int .u64 l, .bool true, .bool s, .string ⟨#[]⟩])] w fun e w' => e = .returned (.bool (!s)) ∧ Plus w w' := by
  cases s
  all_goals
    go_enter Tryz.func121, Tryz.ntmps121
    go_wp2_with fail
    refine wp_region_plus (by kernel_rfl) (by kernel_rfl) ?_
    repeat (go_big_quiet_step (first | (go_at_call 128; exact Calls.plus_of (c128 _))))
    refine wpQuiet_nil ?_
    intro _ hq
    obtain ⟨⟨dq, oq⟩, rfl⟩ := hq
    go_wp2_with fail
    go_ret
    exact ⟨rfl, by repeat (first | exact Plus.refl _ | refine Plus.alloc ?_ _ | refine Plus.plus ?_ _ _ | refine Plus.drew ?_ | refine Plus.drewN ?_ _)⟩
theorem c133 (h l : Int) (s : Bool) (w : World) : Calls Tryz.prog 133 #[(.agg #[.int .u64 h, .int .u64 l, .bool true, .bool s, .string ⟨#[]⟩])] w fun e w' => e = .returned (.bool s) ∧ Plus w w' := by
  cases s
  all_goals
    go_enter Tryz.func133, Tryz.ntmps133
    go_wp2_with fail
    refine wp_region_plus (by kernel_rfl) (by kernel_rfl) ?_
    repeat (go_big_quiet_step (first | (go_at_call 127; exact Calls.plus_of (c127 _)) | (go_at_call 128; exact Calls.plus_of (c128 _))))
    refine wpQuiet_nil ?_
    intro _ hq
    obtain ⟨⟨dq, oq⟩, rfl⟩ := hq
    go_wp2_with fail
    go_ret
    exact ⟨rfl, by repeat (first | exact Plus.refl _ | refine Plus.alloc ?_ _ | refine Plus.plus ?_ _ _ | refine Plus.drew ?_ | refine Plus.drewN ?_ _)⟩
theorem c89 (h l : Int) (s : Bool) (w : World) : Calls Tryz.prog 89 #[(.agg #[.int .u64 h, .int .u64 l, .bool true, .bool s, .string ⟨#[]⟩])] w fun e w' => e = .returned (.bool true) ∧ Plus w w' := by
  cases s
  all_goals
    go_enter Tryz.func89, Tryz.ntmps89
    go_wp2_with fail
    refine wp_region_plus (by kernel_rfl) (by kernel_rfl) ?_
    repeat (go_big_quiet_step (first | (go_at_call 127; exact Calls.plus_of (c127 _))))
    refine wpQuiet_nil ?_
    intro _ hq
    obtain ⟨⟨dq, oq⟩, rfl⟩ := hq
    go_wp2_with fail
    go_ret
    exact ⟨rfl, by repeat (first | exact Plus.refl _ | refine Plus.alloc ?_ _ | refine Plus.plus ?_ _ _ | refine Plus.drew ?_ | refine Plus.drewN ?_ _)⟩
theorem c96 (h l : Int) (s : Bool) (w : World) : Calls Tryz.prog 96 #[(.agg #[.int .u64 h, .int .u64 l, .bool true, .bool s, .string ⟨#[]⟩])] w fun e w' => e = .returned (.bool false) ∧ Plus w w' := by
  cases s
  all_goals
    go_enter Tryz.func96, Tryz.ntmps96
    go_wp2_with fail
    refine wp_region_plus (by kernel_rfl) (by kernel_rfl) ?_
    repeat (go_big_quiet_step (first | (go_at_call 127; exact Calls.plus_of (c127 _))))
    refine wpQuiet_nil ?_
    intro _ hq
    obtain ⟨⟨dq, oq⟩, rfl⟩ := hq
    go_wp2_with fail
    go_ret
    exact ⟨rfl, by repeat (first | exact Plus.refl _ | refine Plus.alloc ?_ _ | refine Plus.plus ?_ _ _ | refine Plus.drew ?_ | refine Plus.drewN ?_ _)⟩
theorem c99 (h l : Int) (s : Bool) (w : World) : Calls Tryz.prog 99 #[(.agg #[.int .u64 h, .int .u64 l, .bool true, .bool s, .string ⟨#[]⟩])] w fun e w' => e = .returned (.string ⟨#[]⟩) ∧ Plus w w' := by
  cases s
  all_goals
    go_enter Tryz.func99, Tryz.ntmps99
    go_wp2_with fail
    refine wp_region_plus (by kernel_rfl) (by kernel_rfl) ?_
    repeat (go_big_quiet_step (first | (go_at_call 127; exact Calls.plus_of (c127 _))))
    refine wpQuiet_nil ?_
    intro _ hq
    obtain ⟨⟨dq, oq⟩, rfl⟩ := hq
    go_wp2_with fail
    go_ret
    exact ⟨rfl, by repeat (first | exact Plus.refl _ | refine Plus.alloc ?_ _ | refine Plus.plus ?_ _ _ | refine Plus.drew ?_ | refine Plus.drewN ?_ _)⟩
end Go.Proofs.YtmoabfpdlbngeaaGreatDoor
end

section
namespace Go.Proofs.YtmoabfpdlbngeaaGreatDoor
open Go.RowKit
set_option maxHeartbeats 400000
set_option linter.unusedVariables false
set_option linter.unusedSimpArgs false
structure Eq2 (a b : Value) (c d : World) : Prop where
  l : a = b
  r : c = d
structure Eq3 (a b a' b' : Value) (c d : World) : Prop where
  l : a = b
  m : a' = b'
  r : c = d
def lo64 (n : Int) : Int := n % 18446744073709551616
def hi64 (n : Int) : Int := n / 18446744073709551616
def bo64 (x y : Int) : Int := if x < y then 1 else 0
def nt64 (n : Int) : Int := bits .xor .u64 IntKind.u64.max n
def sh8 (v b : Int) : Int := bits .or .u64 (IntKind.u64.wrap (v * 256)) (IntKind.u64.wrap b)
@[go_sem] theorem signed_u64 : IntKind.u64.signed = false := rfl
def sub64Entry : Array Value → Sem Value := fun args => do
  let (x, y, b) ← Extern.MathBitsCarry.three "Sub64" args
  pure (Extern.MathBitsCarry.pair ((x + Extern.MathBitsCarry.m64 - y - b) % Extern.MathBitsCarry.m64) (if x < y + b then 1 else 0))
theorem run_sub64 {P : Program} (x y : Int) (hx : 0 ≤ x) (hy : 0 ≤ y) (hy2 : y < 18446744073709551616) (w : World) :
    (sub64Entry #[.int .u64 x, .int .u64 y, .int .u64 0]).run P w = .ok (.tuple #[.int .u64 (lo64 (x - y)), .int .u64 (bo64 x y)]) w := by
  have key : (sub64Entry #[.int .u64 x, .int .u64 y, .int .u64 0]).run P w =
      .ok (Extern.MathBitsCarry.pair ((x.toNat + Extern.MathBitsCarry.m64 - y.toNat - 0) % Extern.MathBitsCarry.m64) (if x.toNat < y.toNat + 0 then 1 else 0)) w := rfl
  rw [key]
  obtain ⟨X, rfl⟩ := Int.eq_ofNat_of_zero_le hx
  obtain ⟨Y, rfl⟩ := Int.eq_ofNat_of_zero_le hy
  simp only [Extern.MathBitsCarry.pair, Extern.MathBitsCarry.m64, Int.toNat_natCast, lo64, bo64]
  have e1 : ((((X + 2 ^ 64 - Y - 0) % 2 ^ 64 : Nat)) : Int) = ((X : Int) - (Y : Int)) % 18446744073709551616 := by simp; omega
  have e2 : (((if X < Y + 0 then 1 else 0 : Nat)) : Int) = if (X : Int) < (Y : Int) then 1 else 0 := by
    by_cases h : X < Y
    · rw [if_pos (by omega), if_pos (by omega)]; rfl
    · rw [if_neg (by omega), if_neg (by omega)]; rfl
  show Result.ok (Value.tuple #[.int .u64 ((((X + 2 ^ 64 - Y - 0) % 2 ^ 64 : Nat)) : Int), .int .u64 (((if X < Y + 0 then 1 else 0 : Nat)) : Int)]) w = _
  rw [e1, e2]
theorem run88 (x y : Int) (hx : 0 ≤ x) (hy : 0 ≤ y) (w : World) :
    (callFunc 88 #[.int .u64 x, .int .u64 y, .int .u64 0]).run Tryz.prog w = .ok (.value (.tuple #[.int .u64 (lo64 (x + y)), .int .u64 (hi64 (x + y))])) w := by
  rw [run_callFunc_extern Tryz.func88 (by kernel_rfl) (by kernel_rfl) (by kernel_rfl) (e := add64Entry) (by kernel_rfl), run_add64 x y 0 hx hy (by omega) (by omega)]
  simp [lo64, hi64, Result.andThen]
theorem run88c (x c : Int) (hx : 0 ≤ x) (hc : 0 ≤ c) (hc1 : c ≤ 1) (w : World) :
    (callFunc 88 #[.int .u64 x, .int .u64 0, .int .u64 c]).run Tryz.prog w = .ok (.value (.tuple #[.int .u64 (lo64 (x + c)), .int .u64 (hi64 (x + c))])) w := by
  rw [run_callFunc_extern Tryz.func88 (by kernel_rfl) (by kernel_rfl) (by kernel_rfl) (e := add64Entry) (by kernel_rfl), run_add64 x 0 c hx (by omega) hc hc1]
  simp [lo64, hi64, Result.andThen]
theorem run91 (x y : Int) (hx : 0 ≤ x) (hy : 0 ≤ y) (hy2 : y < 18446744073709551616) (w : World) :
    (callFunc 91 #[.int .u64 x, .int .u64 y, .int .u64 0]).run Tryz.prog w = .ok (.value (.tuple #[.int .u64 (lo64 (x - y)), .int .u64 (bo64 x y)])) w := by
  rw [run_callFunc_extern Tryz.func91 (by kernel_rfl) (by kernel_rfl) (by kernel_rfl) (e := sub64Entry) (by kernel_rfl), run_sub64 x y hx hy hy2]
  rfl
theorem c187 (h l : Int) (hl : 0 ≤ l) (w : World) : Calls Tryz.prog 187 #[.agg #[.int .u64 h, .int .u64 l]] w fun e w' => e = .returned (.agg #[.int .u64 (IntKind.u64.wrap (h + hi64 (l + 1))), .int .u64 (lo64 (l + 1))]) ∧ Plus w w' := by
  have h88 := fun w => run88 l 1 hl (by omega) w
  go_enter Tryz.func187, Tryz.ntmps187
  go_wp2_with fail
  exact bodyPost_ret (v := .agg #[.int .u64 (IntKind.u64.wrap (h + hi64 (l + 1))), .int .u64 (lo64 (l + 1))]) (by simp [results, Tryz.results187, go_sem]) rfl ⟨rfl, by repeat (first | exact Plus.refl _ | refine Plus.alloc ?_ _ | refine Plus.plus ?_ _ _ | refine Plus.drew ?_ | refine Plus.drewN ?_ _)⟩
theorem c186 (h l : Int) (hl : 0 ≤ l) (w : World) : Calls Tryz.prog 186 #[.agg #[.int .u64 h, .int .u64 l]] w fun e w' => e = .returned (.agg #[.int .u64 (IntKind.u64.wrap (h - bo64 l 1)), .int .u64 (lo64 (l - 1))]) ∧ Plus w w' := by
  have h91 := fun w => run91 l 1 hl (by omega) (by omega) w
  go_enter Tryz.func186, Tryz.ntmps186
  go_wp2_with fail
  exact bodyPost_ret (v := .agg #[.int .u64 (IntKind.u64.wrap (h - bo64 l 1)), .int .u64 (lo64 (l - 1))]) (by simp [results, Tryz.results186, go_sem]) rfl ⟨rfl, by repeat (first | exact Plus.refl _ | refine Plus.alloc ?_ _ | refine Plus.plus ?_ _ _ | refine Plus.drew ?_ | refine Plus.drewN ?_ _)⟩
theorem c188 (h l : Int) (w : World) : Calls Tryz.prog 188 #[.agg #[.int .u64 h, .int .u64 l]] w fun e w' => e = .returned (.bool (bits .or .u64 h l == 0)) ∧ Plus w w' := by
  go_enter Tryz.func188, Tryz.ntmps188
  go_wp2_with fail
  go_ret
  exact ⟨rfl, by repeat (first | exact Plus.refl _ | refine Plus.alloc ?_ _ | refine Plus.plus ?_ _ _ | refine Plus.drew ?_ | refine Plus.drewN ?_ _)⟩
theorem c142 (h l : Int) (w : World) : Calls Tryz.prog 142 #[.agg #[.int .u64 h, .int .u64 l]] w fun e w' => e = .returned (.bool (bits .or .u64 h l == 0)) ∧ Plus w w' := by
  go_enter Tryz.func142, Tryz.ntmps142
  go_wp2_with fail
  go_ret
  exact ⟨rfl, by repeat (first | exact Plus.refl _ | refine Plus.alloc ?_ _ | refine Plus.plus ?_ _ _ | refine Plus.drew ?_ | refine Plus.drewN ?_ _)⟩
theorem c189 (h l h2 l2 : Int) (w : World) : Calls Tryz.prog 189 #[.agg #[.int .u64 h, .int .u64 l], .agg #[.int .u64 h2, .int .u64 l2]] w fun e w' => e = .returned (.agg #[.int .u64 (bits .and .u64 h h2), .int .u64 (bits .and .u64 l l2)]) ∧ Plus w w' := by
  go_enter Tryz.func189, Tryz.ntmps189
  go_wp2_with fail
  exact bodyPost_ret (v := .agg #[.int .u64 (bits .and .u64 h h2), .int .u64 (bits .and .u64 l l2)]) (by simp [results, Tryz.results189, go_sem]) rfl ⟨rfl, by repeat (first | exact Plus.refl _ | refine Plus.alloc ?_ _ | refine Plus.plus ?_ _ _ | refine Plus.drew ?_ | refine Plus.drewN ?_ _)⟩
theorem c141 (h l h2 l2 : Int) (w : World) : Calls Tryz.prog 141 #[.agg #[.int .u64 h, .int .u64 l], .agg #[.int .u64 h2, .int .u64 l2]] w fun e w' => e = .returned (.agg #[.int .u64 (bits .and .u64 h h2), .int .u64 (bits .and .u64 l l2)]) ∧ Plus w w' := by
  go_enter Tryz.func141, Tryz.ntmps141
  go_wp2_with fail
  exact bodyPost_ret (v := .agg #[.int .u64 (bits .and .u64 h h2), .int .u64 (bits .and .u64 l l2)]) (by simp [results, Tryz.results141, go_sem]) rfl ⟨rfl, by repeat (first | exact Plus.refl _ | refine Plus.alloc ?_ _ | refine Plus.plus ?_ _ _ | refine Plus.drew ?_ | refine Plus.drewN ?_ _)⟩
theorem c140 (h l h2 l2 : Int) (w : World) : Calls Tryz.prog 140 #[.agg #[.int .u64 h, .int .u64 l], .agg #[.int .u64 h2, .int .u64 l2]] w fun e w' => e = .returned (.agg #[.int .u64 (bits .xor .u64 h h2), .int .u64 (bits .xor .u64 l l2)]) ∧ Plus w w' := by
  go_enter Tryz.func140, Tryz.ntmps140
  go_wp2_with fail
  exact bodyPost_ret (v := .agg #[.int .u64 (bits .xor .u64 h h2), .int .u64 (bits .xor .u64 l l2)]) (by simp [results, Tryz.results140, go_sem]) rfl ⟨rfl, by repeat (first | exact Plus.refl _ | refine Plus.alloc ?_ _ | refine Plus.plus ?_ _ _ | refine Plus.drew ?_ | refine Plus.drewN ?_ _)⟩
theorem c143 (h l h2 l2 : Int) (w : World) : Calls Tryz.prog 143 #[.agg #[.int .u64 h, .int .u64 l], .agg #[.int .u64 h2, .int .u64 l2]] w fun e w' => e = .returned (.agg #[.int .u64 (bits .or .u64 h h2), .int .u64 (bits .or .u64 l l2)]) ∧ Plus w w' := by
  go_enter Tryz.func143, Tryz.ntmps143
  go_wp2_with fail
  exact bodyPost_ret (v := .agg #[.int .u64 (bits .or .u64 h h2), .int .u64 (bits .or .u64 l l2)]) (by simp [results, Tryz.results143, go_sem]) rfl ⟨rfl, by repeat (first | exact Plus.refl _ | refine Plus.alloc ?_ _ | refine Plus.plus ?_ _ _ | refine Plus.drew ?_ | refine Plus.drewN ?_ _)⟩
theorem c192 (h l : Int) (w : World) : Calls Tryz.prog 192 #[.agg #[.int .u64 h, .int .u64 l]] w fun e w' => e = .returned (.agg #[.int .u64 (nt64 h), .int .u64 (nt64 l)]) ∧ Plus w w' := by
  go_enter Tryz.func192, Tryz.ntmps192
  go_wp2_with fail
  exact bodyPost_ret (v := .agg #[.int .u64 (nt64 h), .int .u64 (nt64 l)]) (by simp [results, Tryz.results192, go_sem, nt64]) rfl ⟨rfl, by repeat (first | exact Plus.refl _ | refine Plus.alloc ?_ _ | refine Plus.plus ?_ _ _ | refine Plus.drew ?_ | refine Plus.drewN ?_ _)⟩
theorem c131 (g o c : Nat) (x0 x1 x2 x3 x4 x5 x6 x7 : Int) (w : World) (hc : 8 ≤ c) (c0 : w.cell? ⟨g, o, none⟩ = some (.int .u8 x0)) (c1 : w.cell? ⟨g, o + 1, none⟩ = some (.int .u8 x1)) (c2 : w.cell? ⟨g, o + 2, none⟩ = some (.int .u8 x2)) (c3 : w.cell? ⟨g, o + 3, none⟩ = some (.int .u8 x3)) (c4 : w.cell? ⟨g, o + 4, none⟩ = some (.int .u8 x4)) (c5 : w.cell? ⟨g, o + 5, none⟩ = some (.int .u8 x5)) (c6 : w.cell? ⟨g, o + 6, none⟩ = some (.int .u8 x6)) (c7 : w.cell? ⟨g, o + 7, none⟩ = some (.int .u8 x7)) : Calls Tryz.prog 131 #[.slice (some ⟨g, o, none⟩) 8 c] w fun e w' => e = .returned (.int .u64 (sh8 (sh8 (sh8 (sh8 (sh8 (sh8 (sh8 (sh8 0 x0) x1) x2) x3) x4) x5) x6) x7)) ∧ w = w' := by
  go_enter Tryz.func131, Tryz.ntmps131
  go_wp2_with fail
  go_loop [3, 4] (fun v i => (i = .int .i64 0 ∧ v = .int .u64 0) ∨ (i = .int .i64 1 ∧ v = .int .u64 (sh8 0 x0)) ∨ (i = .int .i64 2 ∧ v = .int .u64 (sh8 (sh8 0 x0) x1)) ∨ (i = .int .i64 3 ∧ v = .int .u64 (sh8 (sh8 (sh8 0 x0) x1) x2)) ∨ (i = .int .i64 4 ∧ v = .int .u64 (sh8 (sh8 (sh8 (sh8 0 x0) x1) x2) x3)) ∨ (i = .int .i64 5 ∧ v = .int .u64 (sh8 (sh8 (sh8 (sh8 (sh8 0 x0) x1) x2) x3) x4)) ∨ (i = .int .i64 6 ∧ v = .int .u64 (sh8 (sh8 (sh8 (sh8 (sh8 (sh8 0 x0) x1) x2) x3) x4) x5)) ∨ (i = .int .i64 7 ∧ v = .int .u64 (sh8 (sh8 (sh8 (sh8 (sh8 (sh8 (sh8 0 x0) x1) x2) x3) x4) x5) x6)) ∨ (i = .int .i64 8 ∧ v = .int .u64 (sh8 (sh8 (sh8 (sh8 (sh8 (sh8 (sh8 (sh8 0 x0) x1) x2) x3) x4) x5) x6) x7))) (fun _ i => (8 - intOf i).toNat)
  case atStart => exact .inl ⟨rfl, rfl⟩
  case round =>
    rcases hrel with ⟨rfl, rfl⟩ | ⟨rfl, rfl⟩ | ⟨rfl, rfl⟩ | ⟨rfl, rfl⟩ | ⟨rfl, rfl⟩ | ⟨rfl, rfl⟩ | ⟨rfl, rfl⟩ | ⟨rfl, rfl⟩ | ⟨rfl, rfl⟩
    · go_wp2_with fail
      go_round
      case rel => exact .inr (.inl ⟨rfl, rfl⟩)
      case measure => simp [intOf]
    · go_wp2_with fail
      go_round
      case rel => exact .inr (.inr (.inl ⟨rfl, rfl⟩))
      case measure => simp [intOf]
    · go_wp2_with fail
      go_round
      case rel => exact .inr (.inr (.inr (.inl ⟨rfl, rfl⟩)))
      case measure => simp [intOf]
    · go_wp2_with fail
      go_round
      case rel => exact .inr (.inr (.inr (.inr (.inl ⟨rfl, rfl⟩))))
      case measure => simp [intOf]
    · go_wp2_with fail
      go_round
      case rel => exact .inr (.inr (.inr (.inr (.inr (.inl ⟨rfl, rfl⟩)))))
      case measure => simp [intOf]
    · go_wp2_with fail
      go_round
      case rel => exact .inr (.inr (.inr (.inr (.inr (.inr (.inl ⟨rfl, rfl⟩))))))
      case measure => simp [intOf]
    · go_wp2_with fail
      go_round
      case rel => exact .inr (.inr (.inr (.inr (.inr (.inr (.inr (.inl ⟨rfl, rfl⟩)))))))
      case measure => simp [intOf]
    · go_wp2_with fail
      go_round
      case rel => exact .inr (.inr (.inr (.inr (.inr (.inr (.inr (.inr (⟨rfl, rfl⟩))))))))
      case measure => simp [intOf]
    · go_wp2_with fail
      go_ret
      exact ⟨rfl, rfl⟩
theorem c130 (g o c : Nat) (v : Int) (x0 x1 x2 x3 x4 x5 x6 x7 : Int) (w : World) (c0 : w.cell? ⟨g, o, none⟩ = some (.int .u8 x0)) (c1 : w.cell? ⟨g, o + 1, none⟩ = some (.int .u8 x1)) (c2 : w.cell? ⟨g, o + 2, none⟩ = some (.int .u8 x2)) (c3 : w.cell? ⟨g, o + 3, none⟩ = some (.int .u8 x3)) (c4 : w.cell? ⟨g, o + 4, none⟩ = some (.int .u8 x4)) (c5 : w.cell? ⟨g, o + 5, none⟩ = some (.int .u8 x5)) (c6 : w.cell? ⟨g, o + 6, none⟩ = some (.int .u8 x6)) (c7 : w.cell? ⟨g, o + 7, none⟩ = some (.int .u8 x7)) (f0 : w.frozen? ⟨g, o, none⟩ = false) (f1 : w.frozen? ⟨g, o + 1, none⟩ = false) (f2 : w.frozen? ⟨g, o + 2, none⟩ = false) (f3 : w.frozen? ⟨g, o + 3, none⟩ = false) (f4 : w.frozen? ⟨g, o + 4, none⟩ = false) (f5 : w.frozen? ⟨g, o + 5, none⟩ = false) (f6 : w.frozen? ⟨g, o + 6, none⟩ = false) (f7 : w.frozen? ⟨g, o + 7, none⟩ = false) : Calls Tryz.prog 130 #[.slice (some ⟨g, o, none⟩) 8 c, .int .u64 v] w fun e w' => e = .returned (.tuple #[]) ∧ ((((((((w.setCell ⟨g, o, none⟩ (.int .u8 (v / 72057594037927936 % 256))).setCell ⟨g, o + 1, none⟩ (.int .u8 (v / 281474976710656 % 256))).setCell ⟨g, o + 2, none⟩ (.int .u8 (v / 1099511627776 % 256))).setCell ⟨g, o + 3, none⟩ (.int .u8 (v / 4294967296 % 256))).setCell ⟨g, o + 4, none⟩ (.int .u8 (v / 16777216 % 256))).setCell ⟨g, o + 5, none⟩ (.int .u8 (v / 65536 % 256))).setCell ⟨g, o + 6, none⟩ (.int .u8 (v / 256 % 256))).setCell ⟨g, o + 7, none⟩ (.int .u8 (v % 256))) = w' := by
  go_enter Tryz.func130, Tryz.ntmps130
  go_wp2_with fail
  go_loopw [4] (fun i wr => (Eq2 i (.int .i64 0) wr w) ∨ (Eq2 i (.int .i64 1) wr (w.setCell ⟨g, o, none⟩ (.int .u8 (v / 72057594037927936 % 256)))) ∨ (Eq2 i (.int .i64 2) wr ((w.setCell ⟨g, o, none⟩ (.int .u8 (v / 72057594037927936 % 256))).setCell ⟨g, o + 1, none⟩ (.int .u8 (v / 281474976710656 % 256)))) ∨ (Eq2 i (.int .i64 3) wr (((w.setCell ⟨g, o, none⟩ (.int .u8 (v / 72057594037927936 % 256))).setCell ⟨g, o + 1, none⟩ (.int .u8 (v / 281474976710656 % 256))).setCell ⟨g, o + 2, none⟩ (.int .u8 (v / 1099511627776 % 256)))) ∨ (Eq2 i (.int .i64 4) wr ((((w.setCell ⟨g, o, none⟩ (.int .u8 (v / 72057594037927936 % 256))).setCell ⟨g, o + 1, none⟩ (.int .u8 (v / 281474976710656 % 256))).setCell ⟨g, o + 2, none⟩ (.int .u8 (v / 1099511627776 % 256))).setCell ⟨g, o + 3, none⟩ (.int .u8 (v / 4294967296 % 256)))) ∨ (Eq2 i (.int .i64 5) wr (((((w.setCell ⟨g, o, none⟩ (.int .u8 (v / 72057594037927936 % 256))).setCell ⟨g, o + 1, none⟩ (.int .u8 (v / 281474976710656 % 256))).setCell ⟨g, o + 2, none⟩ (.int .u8 (v / 1099511627776 % 256))).setCell ⟨g, o + 3, none⟩ (.int .u8 (v / 4294967296 % 256))).setCell ⟨g, o + 4, none⟩ (.int .u8 (v / 16777216 % 256)))) ∨ (Eq2 i (.int .i64 6) wr ((((((w.setCell ⟨g, o, none⟩ (.int .u8 (v / 72057594037927936 % 256))).setCell ⟨g, o + 1, none⟩ (.int .u8 (v / 281474976710656 % 256))).setCell ⟨g, o + 2, none⟩ (.int .u8 (v / 1099511627776 % 256))).setCell ⟨g, o + 3, none⟩ (.int .u8 (v / 4294967296 % 256))).setCell ⟨g, o + 4, none⟩ (.int .u8 (v / 16777216 % 256))).setCell ⟨g, o + 5, none⟩ (.int .u8 (v / 65536 % 256)))) ∨ (Eq2 i (.int .i64 7) wr (((((((w.setCell ⟨g, o, none⟩ (.int .u8 (v / 72057594037927936 % 256))).setCell ⟨g, o + 1, none⟩ (.int .u8 (v / 281474976710656 % 256))).setCell ⟨g, o + 2, none⟩ (.int .u8 (v / 1099511627776 % 256))).setCell ⟨g, o + 3, none⟩ (.int .u8 (v / 4294967296 % 256))).setCell ⟨g, o + 4, none⟩ (.int .u8 (v / 16777216 % 256))).setCell ⟨g, o + 5, none⟩ (.int .u8 (v / 65536 % 256))).setCell ⟨g, o + 6, none⟩ (.int .u8 (v / 256 % 256)))) ∨ (Eq2 i (.int .i64 8) wr ((((((((w.setCell ⟨g, o, none⟩ (.int .u8 (v / 72057594037927936 % 256))).setCell ⟨g, o + 1, none⟩ (.int .u8 (v / 281474976710656 % 256))).setCell ⟨g, o + 2, none⟩ (.int .u8 (v / 1099511627776 % 256))).setCell ⟨g, o + 3, none⟩ (.int .u8 (v / 4294967296 % 256))).setCell ⟨g, o + 4, none⟩ (.int .u8 (v / 16777216 % 256))).setCell ⟨g, o + 5, none⟩ (.int .u8 (v / 65536 % 256))).setCell ⟨g, o + 6, none⟩ (.int .u8 (v / 256 % 256))).setCell ⟨g, o + 7, none⟩ (.int .u8 (v % 256))))) (fun i _ => (8 - intOf i).toNat)
  case atStart => exact .inl ⟨rfl, rfl⟩
  case round =>
    rcases hrel with ⟨rfl, rfl⟩ | ⟨rfl, rfl⟩ | ⟨rfl, rfl⟩ | ⟨rfl, rfl⟩ | ⟨rfl, rfl⟩ | ⟨rfl, rfl⟩ | ⟨rfl, rfl⟩ | ⟨rfl, rfl⟩ | ⟨rfl, rfl⟩
    · go_wp2_with fail
      go_roundw
      case rel => exact .inr (.inl ⟨rfl, rfl⟩)
      case measure => simp [intOf]
    · go_wp2_with fail
      go_roundw
      case rel => exact .inr (.inr (.inl ⟨rfl, rfl⟩))
      case measure => simp [intOf]
    · go_wp2_with fail
      go_roundw
      case rel => exact .inr (.inr (.inr (.inl ⟨rfl, rfl⟩)))
      case measure => simp [intOf]
    · go_wp2_with fail
      go_roundw
      case rel => exact .inr (.inr (.inr (.inr (.inl ⟨rfl, rfl⟩))))
      case measure => simp [intOf]
    · go_wp2_with fail
      go_roundw
      case rel => exact .inr (.inr (.inr (.inr (.inr (.inl ⟨rfl, rfl⟩)))))
      case measure => simp [intOf]
    · go_wp2_with fail
      go_roundw
      case rel => exact .inr (.inr (.inr (.inr (.inr (.inr (.inl ⟨rfl, rfl⟩))))))
      case measure => simp [intOf]
    · go_wp2_with fail
      go_roundw
      case rel => exact .inr (.inr (.inr (.inr (.inr (.inr (.inr (.inl ⟨rfl, rfl⟩)))))))
      case measure => simp [intOf]
    · go_wp2_with fail
      go_roundw
      case rel => exact .inr (.inr (.inr (.inr (.inr (.inr (.inr (.inr (⟨rfl, rfl⟩))))))))
      case measure => simp [intOf]
    · go_wp2_with fail
      go_end0
      exact ⟨rfl, rfl⟩
theorem c129 (g o c : Nat) (v : Int) (x0 x1 x2 x3 : Int) (w : World) (c0 : w.cell? ⟨g, o, none⟩ = some (.int .u8 x0)) (c1 : w.cell? ⟨g, o + 1, none⟩ = some (.int .u8 x1)) (c2 : w.cell? ⟨g, o + 2, none⟩ = some (.int .u8 x2)) (c3 : w.cell? ⟨g, o + 3, none⟩ = some (.int .u8 x3)) (f0 : w.frozen? ⟨g, o, none⟩ = false) (f1 : w.frozen? ⟨g, o + 1, none⟩ = false) (f2 : w.frozen? ⟨g, o + 2, none⟩ = false) (f3 : w.frozen? ⟨g, o + 3, none⟩ = false) : Calls Tryz.prog 129 #[.slice (some ⟨g, o, none⟩) 4 c, .int .u32 v] w fun e w' => e = .returned (.tuple #[]) ∧ ((((w.setCell ⟨g, o, none⟩ (.int .u8 (v / 16777216 % 256))).setCell ⟨g, o + 1, none⟩ (.int .u8 (v / 65536 % 256))).setCell ⟨g, o + 2, none⟩ (.int .u8 (v / 256 % 256))).setCell ⟨g, o + 3, none⟩ (.int .u8 (v % 256))) = w' := by
  go_enter Tryz.func129, Tryz.ntmps129
  go_wp2_with fail
  go_end0
  exact ⟨rfl, rfl⟩
theorem c168 (g o c : Nat) (v : Int) (x0 x1 x2 x3 x4 x5 x6 x7 : Int) (hc : 8 ≤ (c : Int)) (hc2 : 8 ≤ c) (w : World) (c0 : w.cell? ⟨g, o, none⟩ = some (.int .u8 x0)) (c1 : w.cell? ⟨g, o + 1, none⟩ = some (.int .u8 x1)) (c2 : w.cell? ⟨g, o + 2, none⟩ = some (.int .u8 x2)) (c3 : w.cell? ⟨g, o + 3, none⟩ = some (.int .u8 x3)) (c4 : w.cell? ⟨g, o + 4, none⟩ = some (.int .u8 x4)) (c5 : w.cell? ⟨g, o + 5, none⟩ = some (.int .u8 x5)) (c6 : w.cell? ⟨g, o + 6, none⟩ = some (.int .u8 x6)) (c7 : w.cell? ⟨g, o + 7, none⟩ = some (.int .u8 x7)) (f0 : w.frozen? ⟨g, o, none⟩ = false) (f1 : w.frozen? ⟨g, o + 1, none⟩ = false) (f2 : w.frozen? ⟨g, o + 2, none⟩ = false) (f3 : w.frozen? ⟨g, o + 3, none⟩ = false) (f4 : w.frozen? ⟨g, o + 4, none⟩ = false) (f5 : w.frozen? ⟨g, o + 5, none⟩ = false) (f6 : w.frozen? ⟨g, o + 6, none⟩ = false) (f7 : w.frozen? ⟨g, o + 7, none⟩ = false) : Calls Tryz.prog 168 #[.slice (some ⟨g, o, none⟩) 8 c, .int .u64 v] w fun e w' => e = .returned (.tuple #[]) ∧ ((((((((w.setCell ⟨g, o, none⟩ (.int .u8 (v / 72057594037927936 % 256))).setCell ⟨g, o + 1, none⟩ (.int .u8 (v / 281474976710656 % 256))).setCell ⟨g, o + 2, none⟩ (.int .u8 (v / 1099511627776 % 256))).setCell ⟨g, o + 3, none⟩ (.int .u8 (v / 4294967296 % 256))).setCell ⟨g, o + 4, none⟩ (.int .u8 (v / 16777216 % 256))).setCell ⟨g, o + 5, none⟩ (.int .u8 (v / 65536 % 256))).setCell ⟨g, o + 6, none⟩ (.int .u8 (v / 256 % 256))).setCell ⟨g, o + 7, none⟩ (.int .u8 (v % 256))) = w' := by
  go_enter Tryz.func168, Tryz.ntmps168
  go_wp2_with fail
  go_loopw [4, 11] (fun u4 i wr => (Eq2 i (.int .i64 0) wr w) ∨ (Eq2 i (.int .i64 1) wr (w.setCell ⟨g, o, none⟩ (.int .u8 (v / 72057594037927936 % 256)))) ∨ (Eq2 i (.int .i64 2) wr ((w.setCell ⟨g, o, none⟩ (.int .u8 (v / 72057594037927936 % 256))).setCell ⟨g, o + 1, none⟩ (.int .u8 (v / 281474976710656 % 256)))) ∨ (Eq2 i (.int .i64 3) wr (((w.setCell ⟨g, o, none⟩ (.int .u8 (v / 72057594037927936 % 256))).setCell ⟨g, o + 1, none⟩ (.int .u8 (v / 281474976710656 % 256))).setCell ⟨g, o + 2, none⟩ (.int .u8 (v / 1099511627776 % 256)))) ∨ (Eq2 i (.int .i64 4) wr ((((w.setCell ⟨g, o, none⟩ (.int .u8 (v / 72057594037927936 % 256))).setCell ⟨g, o + 1, none⟩ (.int .u8 (v / 281474976710656 % 256))).setCell ⟨g, o + 2, none⟩ (.int .u8 (v / 1099511627776 % 256))).setCell ⟨g, o + 3, none⟩ (.int .u8 (v / 4294967296 % 256)))) ∨ (Eq2 i (.int .i64 5) wr (((((w.setCell ⟨g, o, none⟩ (.int .u8 (v / 72057594037927936 % 256))).setCell ⟨g, o + 1, none⟩ (.int .u8 (v / 281474976710656 % 256))).setCell ⟨g, o + 2, none⟩ (.int .u8 (v / 1099511627776 % 256))).setCell ⟨g, o + 3, none⟩ (.int .u8 (v / 4294967296 % 256))).setCell ⟨g, o + 4, none⟩ (.int .u8 (v / 16777216 % 256)))) ∨ (Eq2 i (.int .i64 6) wr ((((((w.setCell ⟨g, o, none⟩ (.int .u8 (v / 72057594037927936 % 256))).setCell ⟨g, o + 1, none⟩ (.int .u8 (v / 281474976710656 % 256))).setCell ⟨g, o + 2, none⟩ (.int .u8 (v / 1099511627776 % 256))).setCell ⟨g, o + 3, none⟩ (.int .u8 (v / 4294967296 % 256))).setCell ⟨g, o + 4, none⟩ (.int .u8 (v / 16777216 % 256))).setCell ⟨g, o + 5, none⟩ (.int .u8 (v / 65536 % 256)))) ∨ (Eq2 i (.int .i64 7) wr (((((((w.setCell ⟨g, o, none⟩ (.int .u8 (v / 72057594037927936 % 256))).setCell ⟨g, o + 1, none⟩ (.int .u8 (v / 281474976710656 % 256))).setCell ⟨g, o + 2, none⟩ (.int .u8 (v / 1099511627776 % 256))).setCell ⟨g, o + 3, none⟩ (.int .u8 (v / 4294967296 % 256))).setCell ⟨g, o + 4, none⟩ (.int .u8 (v / 16777216 % 256))).setCell ⟨g, o + 5, none⟩ (.int .u8 (v / 65536 % 256))).setCell ⟨g, o + 6, none⟩ (.int .u8 (v / 256 % 256)))) ∨ (Eq2 i (.int .i64 8) wr ((((((((w.setCell ⟨g, o, none⟩ (.int .u8 (v / 72057594037927936 % 256))).setCell ⟨g, o + 1, none⟩ (.int .u8 (v / 281474976710656 % 256))).setCell ⟨g, o + 2, none⟩ (.int .u8 (v / 1099511627776 % 256))).setCell ⟨g, o + 3, none⟩ (.int .u8 (v / 4294967296 % 256))).setCell ⟨g, o + 4, none⟩ (.int .u8 (v / 16777216 % 256))).setCell ⟨g, o + 5, none⟩ (.int .u8 (v / 65536 % 256))).setCell ⟨g, o + 6, none⟩ (.int .u8 (v / 256 % 256))).setCell ⟨g, o + 7, none⟩ (.int .u8 (v % 256))))) (fun _ i _ => (8 - intOf i).toNat)
  case atStart => exact .inl ⟨rfl, rfl⟩
  case round =>
    rcases hrel with ⟨rfl, rfl⟩ | ⟨rfl, rfl⟩ | ⟨rfl, rfl⟩ | ⟨rfl, rfl⟩ | ⟨rfl, rfl⟩ | ⟨rfl, rfl⟩ | ⟨rfl, rfl⟩ | ⟨rfl, rfl⟩ | ⟨rfl, rfl⟩
    · go_wp2_with fail
      go_roundw
      case rel => exact .inr (.inl ⟨rfl, rfl⟩)
      case measure => simp [intOf]
    · go_wp2_with fail
      go_roundw
      case rel => exact .inr (.inr (.inl ⟨rfl, rfl⟩))
      case measure => simp [intOf]
    · go_wp2_with fail
      go_roundw
      case rel => exact .inr (.inr (.inr (.inl ⟨rfl, rfl⟩)))
      case measure => simp [intOf]
    · go_wp2_with fail
      go_roundw
      case rel => exact .inr (.inr (.inr (.inr (.inl ⟨rfl, rfl⟩))))
      case measure => simp [intOf]
    · go_wp2_with fail
      go_roundw
      case rel => exact .inr (.inr (.inr (.inr (.inr (.inl ⟨rfl, rfl⟩)))))
      case measure => simp [intOf]
    · go_wp2_with fail
      go_roundw
      case rel => exact .inr (.inr (.inr (.inr (.inr (.inr (.inl ⟨rfl, rfl⟩))))))
      case measure => simp [intOf]
    · go_wp2_with fail
      go_roundw
      case rel => exact .inr (.inr (.inr (.inr (.inr (.inr (.inr (.inl ⟨rfl, rfl⟩)))))))
      case measure => simp [intOf]
    · go_wp2_with fail
      go_roundw
      case rel => exact .inr (.inr (.inr (.inr (.inr (.inr (.inr (.inr (⟨rfl, rfl⟩))))))))
      case measure => simp [intOf]
    · go_wp2_with fail
      go_end0
      exact ⟨rfl, rfl⟩
theorem c92_4 (g o c : Nat) (v : Int) (x0 x1 x2 x3 : Int) (w : World) (c0 : w.cell? ⟨g, o, none⟩ = some (.int .u8 x0)) (c1 : w.cell? ⟨g, o + 1, none⟩ = some (.int .u8 x1)) (c2 : w.cell? ⟨g, o + 2, none⟩ = some (.int .u8 x2)) (c3 : w.cell? ⟨g, o + 3, none⟩ = some (.int .u8 x3)) (f0 : w.frozen? ⟨g, o, none⟩ = false) (f1 : w.frozen? ⟨g, o + 1, none⟩ = false) (f2 : w.frozen? ⟨g, o + 2, none⟩ = false) (f3 : w.frozen? ⟨g, o + 3, none⟩ = false) : Calls Tryz.prog 92 #[.slice (some ⟨g, o, none⟩) 4 c, .int .u64 v] w fun e w' => e = .returned (.tuple #[]) ∧ ((((w.setCell ⟨g, o + 3, none⟩ (.int .u8 (v % 256))).setCell ⟨g, o + 2, none⟩ (.int .u8 (v / 256 % 256))).setCell ⟨g, o + 1, none⟩ (.int .u8 (v / 65536 % 256))).setCell ⟨g, o, none⟩ (.int .u8 (v / 16777216 % 256))) = w' := by
  go_enter Tryz.func92, Tryz.ntmps92
  go_wp2_with fail
  go_loopw [1, 4] (fun n i wr => (Eq3 i (.int .i64 3) n (.int .u64 v) wr w) ∨ (Eq3 i (.int .i64 2) n (.int .u64 (v / 256)) wr (w.setCell ⟨g, o + 3, none⟩ (.int .u8 (v % 256)))) ∨ (Eq3 i (.int .i64 1) n (.int .u64 (v / 65536)) wr ((w.setCell ⟨g, o + 3, none⟩ (.int .u8 (v % 256))).setCell ⟨g, o + 2, none⟩ (.int .u8 (v / 256 % 256)))) ∨ (Eq3 i (.int .i64 0) n (.int .u64 (v / 16777216)) wr (((w.setCell ⟨g, o + 3, none⟩ (.int .u8 (v % 256))).setCell ⟨g, o + 2, none⟩ (.int .u8 (v / 256 % 256))).setCell ⟨g, o + 1, none⟩ (.int .u8 (v / 65536 % 256)))) ∨ (Eq3 i (.int .i64 (-1)) n (.int .u64 (v / 4294967296)) wr ((((w.setCell ⟨g, o + 3, none⟩ (.int .u8 (v % 256))).setCell ⟨g, o + 2, none⟩ (.int .u8 (v / 256 % 256))).setCell ⟨g, o + 1, none⟩ (.int .u8 (v / 65536 % 256))).setCell ⟨g, o, none⟩ (.int .u8 (v / 16777216 % 256))))) (fun _ i _ => (1 + intOf i).toNat)
  case atStart => exact .inl ⟨rfl, rfl, rfl⟩
  case round =>
    rcases hrel with ⟨rfl, rfl, rfl⟩ | ⟨rfl, rfl, rfl⟩ | ⟨rfl, rfl, rfl⟩ | ⟨rfl, rfl, rfl⟩ | ⟨rfl, rfl, rfl⟩
    · go_wp2_with fail
      go_roundw
      case rel => exact .inr (.inl ⟨rfl, congrArg _ (by omega), rfl⟩)
      case measure => simp [intOf]
    · go_wp2_with fail
      go_roundw
      case rel => exact .inr (.inr (.inl ⟨rfl, congrArg _ (by omega), rfl⟩))
      case measure => simp [intOf]
    · go_wp2_with fail
      go_roundw
      case rel => exact .inr (.inr (.inr (.inl ⟨rfl, congrArg _ (by omega), rfl⟩)))
      case measure => simp [intOf]
    · go_wp2_with fail
      go_roundw
      case rel => exact .inr (.inr (.inr (.inr (⟨rfl, congrArg _ (by omega), rfl⟩))))
      case measure => simp [intOf]
    · go_wp2_with fail
      go_end0
      exact ⟨rfl, rfl⟩
theorem c92_8 (g o c : Nat) (v : Int) (x0 x1 x2 x3 x4 x5 x6 x7 : Int) (w : World) (c0 : w.cell? ⟨g, o, none⟩ = some (.int .u8 x0)) (c1 : w.cell? ⟨g, o + 1, none⟩ = some (.int .u8 x1)) (c2 : w.cell? ⟨g, o + 2, none⟩ = some (.int .u8 x2)) (c3 : w.cell? ⟨g, o + 3, none⟩ = some (.int .u8 x3)) (c4 : w.cell? ⟨g, o + 4, none⟩ = some (.int .u8 x4)) (c5 : w.cell? ⟨g, o + 5, none⟩ = some (.int .u8 x5)) (c6 : w.cell? ⟨g, o + 6, none⟩ = some (.int .u8 x6)) (c7 : w.cell? ⟨g, o + 7, none⟩ = some (.int .u8 x7)) (f0 : w.frozen? ⟨g, o, none⟩ = false) (f1 : w.frozen? ⟨g, o + 1, none⟩ = false) (f2 : w.frozen? ⟨g, o + 2, none⟩ = false) (f3 : w.frozen? ⟨g, o + 3, none⟩ = false) (f4 : w.frozen? ⟨g, o + 4, none⟩ = false) (f5 : w.frozen? ⟨g, o + 5, none⟩ = false) (f6 : w.frozen? ⟨g, o + 6, none⟩ = false) (f7 : w.frozen? ⟨g, o + 7, none⟩ = false) : Calls Tryz.prog 92 #[.slice (some ⟨g, o, none⟩) 8 c, .int .u64 v] w fun e w' => e = .returned (.tuple #[]) ∧ ((((((((w.setCell ⟨g, o + 7, none⟩ (.int .u8 (v % 256))).setCell ⟨g, o + 6, none⟩ (.int .u8 (v / 256 % 256))).setCell ⟨g, o + 5, none⟩ (.int .u8 (v / 65536 % 256))).setCell ⟨g, o + 4, none⟩ (.int .u8 (v / 16777216 % 256))).setCell ⟨g, o + 3, none⟩ (.int .u8 (v / 4294967296 % 256))).setCell ⟨g, o + 2, none⟩ (.int .u8 (v / 1099511627776 % 256))).setCell ⟨g, o + 1, none⟩ (.int .u8 (v / 281474976710656 % 256))).setCell ⟨g, o, none⟩ (.int .u8 (v / 72057594037927936 % 256))) = w' := by
  go_enter Tryz.func92, Tryz.ntmps92
  go_wp2_with fail
  go_loopw [1, 4] (fun n i wr => (Eq3 i (.int .i64 7) n (.int .u64 v) wr w) ∨ (Eq3 i (.int .i64 6) n (.int .u64 (v / 256)) wr (w.setCell ⟨g, o + 7, none⟩ (.int .u8 (v % 256)))) ∨ (Eq3 i (.int .i64 5) n (.int .u64 (v / 65536)) wr ((w.setCell ⟨g, o + 7, none⟩ (.int .u8 (v % 256))).setCell ⟨g, o + 6, none⟩ (.int .u8 (v / 256 % 256)))) ∨ (Eq3 i (.int .i64 4) n (.int .u64 (v / 16777216)) wr (((w.setCell ⟨g, o + 7, none⟩ (.int .u8 (v % 256))).setCell ⟨g, o + 6, none⟩ (.int .u8 (v / 256 % 256))).setCell ⟨g, o + 5, none⟩ (.int .u8 (v / 65536 % 256)))) ∨ (Eq3 i (.int .i64 3) n (.int .u64 (v / 4294967296)) wr ((((w.setCell ⟨g, o + 7, none⟩ (.int .u8 (v % 256))).setCell ⟨g, o + 6, none⟩ (.int .u8 (v / 256 % 256))).setCell ⟨g, o + 5, none⟩ (.int .u8 (v / 65536 % 256))).setCell ⟨g, o + 4, none⟩ (.int .u8 (v / 16777216 % 256)))) ∨ (Eq3 i (.int .i64 2) n (.int .u64 (v / 1099511627776)) wr (((((w.setCell ⟨g, o + 7, none⟩ (.int .u8 (v % 256))).setCell ⟨g, o + 6, none⟩ (.int .u8 (v / 256 % 256))).setCell ⟨g, o + 5, none⟩ (.int .u8 (v / 65536 % 256))).setCell ⟨g, o + 4, none⟩ (.int .u8 (v / 16777216 % 256))).setCell ⟨g, o + 3, none⟩ (.int .u8 (v / 4294967296 % 256)))) ∨ (Eq3 i (.int .i64 1) n (.int .u64 (v / 281474976710656)) wr ((((((w.setCell ⟨g, o + 7, none⟩ (.int .u8 (v % 256))).setCell ⟨g, o + 6, none⟩ (.int .u8 (v / 256 % 256))).setCell ⟨g, o + 5, none⟩ (.int .u8 (v / 65536 % 256))).setCell ⟨g, o + 4, none⟩ (.int .u8 (v / 16777216 % 256))).setCell ⟨g, o + 3, none⟩ (.int .u8 (v / 4294967296 % 256))).setCell ⟨g, o + 2, none⟩ (.int .u8 (v / 1099511627776 % 256)))) ∨ (Eq3 i (.int .i64 0) n (.int .u64 (v / 72057594037927936)) wr (((((((w.setCell ⟨g, o + 7, none⟩ (.int .u8 (v % 256))).setCell ⟨g, o + 6, none⟩ (.int .u8 (v / 256 % 256))).setCell ⟨g, o + 5, none⟩ (.int .u8 (v / 65536 % 256))).setCell ⟨g, o + 4, none⟩ (.int .u8 (v / 16777216 % 256))).setCell ⟨g, o + 3, none⟩ (.int .u8 (v / 4294967296 % 256))).setCell ⟨g, o + 2, none⟩ (.int .u8 (v / 1099511627776 % 256))).setCell ⟨g, o + 1, none⟩ (.int .u8 (v / 281474976710656 % 256)))) ∨ (Eq3 i (.int .i64 (-1)) n (.int .u64 (v / 18446744073709551616)) wr ((((((((w.setCell ⟨g, o + 7, none⟩ (.int .u8 (v % 256))).setCell ⟨g, o + 6, none⟩ (.int .u8 (v / 256 % 256))).setCell ⟨g, o + 5, none⟩ (.int .u8 (v / 65536 % 256))).setCell ⟨g, o + 4, none⟩ (.int .u8 (v / 16777216 % 256))).setCell ⟨g, o + 3, none⟩ (.int .u8 (v / 4294967296 % 256))).setCell ⟨g, o + 2, none⟩ (.int .u8 (v / 1099511627776 % 256))).setCell ⟨g, o + 1, none⟩ (.int .u8 (v / 281474976710656 % 256))).setCell ⟨g, o, none⟩ (.int .u8 (v / 72057594037927936 % 256))))) (fun _ i _ => (1 + intOf i).toNat)
  case atStart => exact .inl ⟨rfl, rfl, rfl⟩
  case round =>
    rcases hrel with ⟨rfl, rfl, rfl⟩ | ⟨rfl, rfl, rfl⟩ | ⟨rfl, rfl, rfl⟩ | ⟨rfl, rfl, rfl⟩ | ⟨rfl, rfl, rfl⟩ | ⟨rfl, rfl, rfl⟩ | ⟨rfl, rfl, rfl⟩ | ⟨rfl, rfl, rfl⟩ | ⟨rfl, rfl, rfl⟩
    · go_wp2_with fail
      go_roundw
      case rel => exact .inr (.inl ⟨rfl, congrArg _ (by omega), rfl⟩)
      case measure => simp [intOf]
    · go_wp2_with fail
      go_roundw
      case rel => exact .inr (.inr (.inl ⟨rfl, congrArg _ (by omega), rfl⟩))
      case measure => simp [intOf]
    · go_wp2_with fail
      go_roundw
      case rel => exact .inr (.inr (.inr (.inl ⟨rfl, congrArg _ (by omega), rfl⟩)))
      case measure => simp [intOf]
    · go_wp2_with fail
      go_roundw
      case rel => exact .inr (.inr (.inr (.inr (.inl ⟨rfl, congrArg _ (by omega), rfl⟩))))
      case measure => simp [intOf]
    · go_wp2_with fail
      go_roundw
      case rel => exact .inr (.inr (.inr (.inr (.inr (.inl ⟨rfl, congrArg _ (by omega), rfl⟩)))))
      case measure => simp [intOf]
    · go_wp2_with fail
      go_roundw
      case rel => exact .inr (.inr (.inr (.inr (.inr (.inr (.inl ⟨rfl, congrArg _ (by omega), rfl⟩))))))
      case measure => simp [intOf]
    · go_wp2_with fail
      go_roundw
      case rel => exact .inr (.inr (.inr (.inr (.inr (.inr (.inr (.inl ⟨rfl, congrArg _ (by omega), rfl⟩)))))))
      case measure => simp [intOf]
    · go_wp2_with fail
      go_roundw
      case rel => exact .inr (.inr (.inr (.inr (.inr (.inr (.inr (.inr (⟨rfl, congrArg _ (by omega), rfl⟩))))))))
      case measure => simp [intOf]
    · go_wp2_with fail
      go_end0
      exact ⟨rfl, rfl⟩
end Go.Proofs.YtmoabfpdlbngeaaGreatDoor
end
