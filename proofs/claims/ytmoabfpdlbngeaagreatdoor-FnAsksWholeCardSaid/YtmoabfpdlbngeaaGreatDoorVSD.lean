/-
  Part of the proofs on the laws of pub-addresssets: joined texts (SD).
-/
import Derived.Test.YtmoabfpdlbngeaaGreatDoorVB7
import Derived.Test.YtmoabfpdlbngeaaGreatDoorVSA
section
namespace Go.Proofs.YtmoabfpdlbngeaaGreatDoor
open Go.RowKit
set_option maxHeartbeats 400000
set_option linter.unusedVariables false
set_option linter.unusedSimpArgs false
/-- A step of a script, as numbers. -/
structure StepV where
  kind : Nat
  r : Nat × Nat
  bits : Nat
structure okStep (s : StepV) : Prop where
  kind : s.kind ≤ 10
  r : okR s.r
  bits : s.bits ≤ lenK s.r.1
def stL (s : StepV) : List Value := [.int .i64 (s.kind : Int), .bool (sK s.r.1), .int .u64 (hK s.r.1), .int .u64 (mK s.r.1), .bool (sK s.r.2), .int .u64 (hK s.r.2), .int .u64 (mK s.r.2), .int .i64 (s.bits : Int)]
def rqL (r : Nat × Nat) : List Value := [.bool (sK r.1), .int .u64 (hK r.1), .int .u64 (mK r.1), .bool (sK r.2), .int .u64 (hK r.2), .int .u64 (mK r.2)]
def layS : Lay StepV := ⟨stL, 8, fun _ => rfl, fun a u hu => by
  simp only [stL, List.mem_cons, List.not_mem_nil, or_false] at hu
  rcases hu with rfl | rfl | rfl | rfl | rfl | rfl | rfl | rfl <;> simp [Value.oneCell'], by omega⟩
def layQ : Lay (Nat × Nat) := ⟨rqL, 6, fun _ => rfl, fun a u hu => by
  simp only [rqL, List.mem_cons, List.not_mem_nil, or_false] at hu
  rcases hu with rfl | rfl | rfl | rfl | rfl | rfl <;> simp [Value.oneCell'], by omega⟩
theorem infoQ : InfoD layQ 40 48 := InfoD.mk (c := 6) rfl (by kernel_rfl)
theorem infoS : InfoD layS 42 64 := InfoD.mk (c := 8) rfl (by kernel_rfl)
theorem under25 : Tryz.prog.underlying 25 = some (.slice 40) := by kernel_rfl
theorem under23 : Tryz.prog.underlying 23 = some (.slice 42) := by kernel_rfl
theorem st_cells {W : World} {g o : Nat} {s : StepV} (h : W.rangeAt g o (stL s)) : W.cell? ⟨g, o, none⟩ = some (.int .i64 (s.kind : Int)) ∧ W.cell? ⟨g, o + 1, none⟩ = some (.bool (sK s.r.1)) ∧ W.cell? ⟨g, o + 2, none⟩ = some (.int .u64 (hK s.r.1)) ∧ W.cell? ⟨g, o + 3, none⟩ = some (.int .u64 (mK s.r.1)) ∧ W.cell? ⟨g, o + 4, none⟩ = some (.bool (sK s.r.2)) ∧ W.cell? ⟨g, o + 5, none⟩ = some (.int .u64 (hK s.r.2)) ∧ W.cell? ⟨g, o + 6, none⟩ = some (.int .u64 (mK s.r.2)) ∧ W.cell? ⟨g, o + 7, none⟩ = some (.int .i64 (s.bits : Int)) :=
  ⟨h 0 _ rfl, h 1 _ rfl, h 2 _ rfl, h 3 _ rfl, h 4 _ rfl, h 5 _ rfl, h 6 _ rfl, h 7 _ rfl⟩
theorem rq_cells {W : World} {g o : Nat} {r : Nat × Nat} (h : W.rangeAt g o (rqL r)) : W.cell? ⟨g, o, none⟩ = some (.bool (sK r.1)) ∧ W.cell? ⟨g, o + 1, none⟩ = some (.int .u64 (hK r.1)) ∧ W.cell? ⟨g, o + 2, none⟩ = some (.int .u64 (mK r.1)) ∧ W.cell? ⟨g, o + 3, none⟩ = some (.bool (sK r.2)) ∧ W.cell? ⟨g, o + 4, none⟩ = some (.int .u64 (hK r.2)) ∧ W.cell? ⟨g, o + 5, none⟩ = some (.int .u64 (mK r.2)) :=
  ⟨h 0 _ rfl, h 1 _ rfl, h 2 _ rfl, h 3 _ rfl, h 4 _ rfl, h 5 _ rfl⟩
/-- What a step does to a set (S) and to the set that is kept (K). -/
def stepS (s : StepV) (X : (Nat → Prop) × (Nat → Prop)) : (Nat → Prop) × (Nat → Prop) :=
  match s.kind with
  | 0 => (fun k => X.1 k ∨ (s.r.1 ≤ k ∧ k ≤ s.r.2), X.2)
  | 1 => (fun k => X.1 k ∧ ¬ (s.r.1 ≤ k ∧ k ≤ s.r.2), X.2)
  | 2 => (fun k => X.1 k ∨ ((pfR s.r.1 s.bits).1 ≤ k ∧ k ≤ (pfR s.r.1 s.bits).2), X.2)
  | 3 => (fun k => X.1 k ∧ ¬ ((pfR s.r.1 s.bits).1 ≤ k ∧ k ≤ (pfR s.r.1 s.bits).2), X.2)
  | 4 => (fun k => X.1 k ∨ (s.r.1 ≤ k ∧ k ≤ s.r.1), X.2)
  | 5 => (fun k => X.1 k ∧ ¬ (s.r.1 ≤ k ∧ k ≤ s.r.1), X.2)
  | 6 => (fun k => okK k ∧ ¬ X.1 k, X.2)
  | 7 => (X.1, X.1)
  | 8 => (fun k => X.1 k ∨ X.2 k, X.2)
  | 9 => (fun k => X.1 k ∧ ¬ X.2 k, X.2)
  | _ => (fun k => X.1 k ∧ ¬ (okK k ∧ ¬ X.2 k), X.2)
def runS (g : Nat → StepV) : Nat → (Nat → Prop) × (Nat → Prop)
  | 0 => (fun _ => False, fun _ => False)
  | i + 1 => stepS (g i) (runS g i)
/-- How long lists get by a step. -/
def grow (c N m N' m' : Nat) : Prop := (c = 7 ∧ N' ≤ N ∧ m' ≤ N) ∨ (c ≤ 5 ∧ N' ≤ N + 1 ∧ m' ≤ m) ∨ (c ≠ 7 ∧ 6 ≤ c ∧ N' ≤ N + m + 2 ∧ m' ≤ m)
/-- A bound on lengths that n steps keep. -/
structure LimS (n : Nat) (g : Nat → StepV) (L : Nat → Nat → Nat → Prop) : Prop where
  z : L 0 0 0
  s : ∀ i N m N' m', i < n → L i N m → grow (g i).kind N m N' m' → L (i + 1) N' m'
  b : ∀ i N m, i ≤ n → L i N m → N ≤ 15000000 ∧ m ≤ 15000000
theorem LimS.bb {n : Nat} {g : Nat → StepV} {L : Nat → Nat → Nat → Prop} (H : LimS n g L) {i N m : Nat} (hi : i ≤ n) (h : L i N m) : N ≤ 15000000 ∧ m ≤ 15000000 := H.b i N m hi h
/-- At most 40 steps of whatever kind. -/
theorem lim40 {n : Nat} (g : Nat → StepV) (hn : n ≤ 40) : LimS n g Gro :=
  ⟨Gro.start, fun i N m N' m' hi G h => by
    rcases h with ⟨_, a, b⟩ | ⟨_, a, b⟩ | ⟨_, _, a, b⟩
    · exact G.keep a b
    · exact G.add (by omega) b
    · exact G.add a b, fun i N m hi G => by have := G.bound (by omega); omega⟩
/-- Whatever number of steps that add a range. -/
theorem limAdd {n : Nat} (g : Nat → StepV) (hn : n ≤ 15000000) (h0 : ∀ i, i < n → (g i).kind = 0) : LimS n g (fun i N m => N ≤ i ∧ m = 0) :=
  ⟨⟨Nat.le_refl _, rfl⟩, fun i N m N' m' hi G h => by
    have := h0 i hi
    rcases h with ⟨q, a, b⟩ | ⟨_, a, b⟩ | ⟨_, q, a, b⟩
    · omega
    · omega
    · omega, fun i N m hi G => by omega⟩
/-- Between two steps: the builder B of the set S, the kept set at P. -/
def PlayR (w wr : World) (B P : Nat) (S K : Nat → Prop) (N m : Nat) : Prop :=
  ∃ vi vo v h, Chg (fun _ => False) w wr ∧ Bs wr B vi vo N S ∧ SetAt wr P v m h ∧ Apt v vi vo ∧ (∀ k, MemR m h k ↔ K k) ∧ w.heap.size ≤ B ∧ ∀ k, (vi.ownBlock = some k ∨ vo.ownBlock = some k) → w.heap.size ≤ k
theorem Moved.chg0 {w wr w2 : World} {B : Nat} {vi vo vi' vo' : Value} (C : Chg (fun _ => False) w wr) (M : Moved wr w2 B vi vo vi' vo') (hB : w.heap.size ≤ B) (ho : ∀ k, (vi.ownBlock = some k ∨ vo.ownBlock = some k) → w.heap.size ≤ k) :
    Chg (fun _ => False) w w2 ∧ ∀ k, (vi'.ownBlock = some k ∨ vo'.ownBlock = some k) → w.heap.size ≤ k := by
  refine ⟨⟨M.chg.os.trans C.os, M.chg.tape.trans C.tape, M.chg.output.trans C.output, Nat.le_trans C.size M.chg.size, fun k hk _ => (M.chg.block k (Nat.lt_of_lt_of_le hk C.size) (fun q => ?_)).trans (C.block k hk id)⟩, fun k q => ?_⟩
  · rcases q with q | q
    · omega
    · have := ho k q; omega
  · rcases M.own k q with q | q
    · exact ho k q
    · exact Nat.le_trans C.size q
theorem PlayR.stp {w wr w2 : World} {B P : Nat} {S K S' K' : Nat → Prop} {N N' m : Nat} {vi vo v : Value} {h : Nat → Nat × Nat} (C : Chg (fun _ => False) w wr) (H : Bs wr B vi vo N S) (T : SetAt wr P v m h) (A : Apt v vi vo) (hK : ∀ k, MemR m h k ↔ K k) (hB : w.heap.size ≤ B) (ho : ∀ k, (vi.ownBlock = some k ∨ vo.ownBlock = some k) → w.heap.size ≤ k)
    (Z : Stp wr B vi vo N' S' w2) {S2 : Nat → Prop} (e1 : ∀ k, S' k ↔ S2 k) (e2 : ∀ k, K k ↔ K' k) : PlayR w w2 B P S2 K' N' m := by
  obtain ⟨v1, v2, M, b⟩ := Z
  obtain ⟨T', A'⟩ := T.moved H A M
  obtain ⟨C', ho'⟩ := Moved.chg0 C M hB ho
  exact ⟨v1, v2, v, h, C', b.congr (Nat.le_refl _) e1, T', A', fun k => (hK k).trans (e2 k), hB, ho'⟩
/-- A set kept anew. -/
theorem PlayR.keep {w wr w2 w3 : World} {B P Q P' : Nat} {S K S2 K2 : Nat → Prop} {N m m' : Nat} {vi vo v v1 v2 v3 u : Value} {h h' : Nat → Nat × Nat} (C : Chg (fun _ => False) w wr) (H : Bs wr B vi vo N S) (hB : w.heap.size ≤ B) (ho : ∀ k, (vi.ownBlock = some k ∨ vo.ownBlock = some k) → w.heap.size ≤ k)
    (c : Chg (fun _ => False) wr w2) (hQ : wr.heap.size ≤ Q) (hq : ∀ k, (v1.ownBlock = some k ∨ v2.ownBlock = some k) → wr.heap.size ≤ k) (I : Ips w2 Q v1 v2 N S w3 P' v3 u m' h') (e1 : ∀ k, S k ↔ S2 k) (e2 : ∀ k, S k ↔ K2 k) : PlayR w w3 B P' S2 K2 N m' := by
  have D := (Moved.chg0 c I.mv hQ hq).1
  have hl := H.lt
  refine ⟨vi, vo, u, h', C.trans D, (H.chg0 D).congr (Nat.le_refl _) e1, I.set, fun k e q => ?_, fun k => (I.mem k).trans (e2 k), hB, ho⟩
  have := I.hu k e
  have := hl.2 k q
  have := c.size
  omega
end Go.Proofs.YtmoabfpdlbngeaaGreatDoor
end
