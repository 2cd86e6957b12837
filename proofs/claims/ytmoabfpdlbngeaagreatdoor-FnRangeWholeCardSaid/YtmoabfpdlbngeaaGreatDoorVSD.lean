/-
  Part of the proofs on the laws of pub-addresssets: joined texts (SD, SC).
-/
import Derived.Test.YtmoabfpdlbngeaaGreatDoorVB7
import Derived.Test.YtmoabfpdlbngeaaGreatDoorVSA
section
namespace Go.Proofs.YtmoabfpdlbngeaaGreatDoor
open Go.RowKit
set_option maxHeartbeats 400000
set_option linter.unusedVariables false
set_option linter.unusedSimpArgs false
/-- A step of a script, as numbers. -/
structure StepV where
  kind : Nat
  r : Nat × Nat
  bits : Nat
structure okStep (s : StepV) : Prop where
  kind : s.kind ≤ 10
  r : okR s.r
  bits : s.bits ≤ lenK s.r.1
def stL (s : StepV) : List Value := [.int .i64 (s.kind : Int), .bool (sK s.r.1), .int .u64 (hK s.r.1), .int .u64 (mK s.r.1), .bool (sK s.r.2), .int .u64 (hK s.r.2), .int .u64 (mK s.r.2), .int .i64 (s.bits : Int)]
def rqL (r : Nat × Nat) : List Value := [.bool (sK r.1), .int .u64 (hK r.1), .int .u64 (mK r.1), .bool (sK r.2), .int .u64 (hK r.2), .int .u64 (mK r.2)]
def layS : Lay StepV := ⟨stL, 8, fun _ => rfl, fun a u hu => by
  simp only [stL, List.mem_cons, List.not_mem_nil, or_false] at hu
  rcases hu with rfl | rfl | rfl | rfl | rfl | rfl | rfl | rfl <;> simp [Value.oneCell'], by omega⟩
def layQ : Lay (Nat × Nat) := ⟨rqL, 6, fun _ => rfl, fun a u hu => by
  simp only [rqL, List.mem_cons, List.not_mem_nil, or_false] at hu
  rcases hu with rfl | rfl | rfl | rfl | rfl | rfl <;> simp [Value.oneCell'], by omega⟩
theorem infoQ : InfoD layQ 40 48 := InfoD.mk (c := 6) rfl (by kernel_rfl)
theorem infoS : InfoD layS 42 64 := InfoD.mk (c := 8) rfl (by kernel_rfl)
theorem under25 : Tryz.prog.underlying 25 = some (.slice 40) := by kernel_rfl
theorem under23 : Tryz.prog.underlying 23 = some (.slice 42) := by kernel_rfl
theorem st_cells {W : World} {g o : Nat} {s : StepV} (h : W.rangeAt g o (stL s)) : W.cell? ⟨g, o, none⟩ = some (.int .i64 (s.kind : Int)) ∧ W.cell? ⟨g, o + 1, none⟩ = some (.bool (sK s.r.1)) ∧ W.cell? ⟨g, o + 2, none⟩ = some (.int .u64 (hK s.r.1)) ∧ W.cell? ⟨g, o + 3, none⟩ = some (.int .u64 (mK s.r.1)) ∧ W.cell? ⟨g, o + 4, none⟩ = some (.bool (sK s.r.2)) ∧ W.cell? ⟨g, o + 5, none⟩ = some (.int .u64 (hK s.r.2)) ∧ W.cell? ⟨g, o + 6, none⟩ = some (.int .u64 (mK s.r.2)) ∧ W.cell? ⟨g, o + 7, none⟩ = some (.int .i64 (s.bits : Int)) :=
  ⟨h 0 _ rfl, h 1 _ rfl, h 2 _ rfl, h 3 _ rfl, h 4 _ rfl, h 5 _ rfl, h 6 _ rfl, h 7 _ rfl⟩
theorem rq_cells {W : World} {g o : Nat} {r : Nat × Nat} (h : W.rangeAt g o (rqL r)) : W.cell? ⟨g, o, none⟩ = some (.bool (sK r.1)) ∧ W.cell? ⟨g, o + 1, none⟩ = some (.int .u64 (hK r.1)) ∧ W.cell? ⟨g, o + 2, none⟩ = some (.int .u64 (mK r.1)) ∧ W.cell? ⟨g, o + 3, none⟩ = some (.bool (sK r.2)) ∧ W.cell? ⟨g, o + 4, none⟩ = some (.int .u64 (hK r.2)) ∧ W.cell? ⟨g, o + 5, none⟩ = some (.int .u64 (mK r.2)) :=
  ⟨h 0 _ rfl, h 1 _ rfl, h 2 _ rfl, h 3 _ rfl, h 4 _ rfl, h 5 _ rfl⟩
/-- What a step does to a set (S) and to the set that is kept (K). -/
def stepS (s : StepV) (X : (Nat → Prop) × (Nat → Prop)) : (Nat → Prop) × (Nat → Prop) :=
  match s.kind with
  | 0 => (fun k => X.1 k ∨ (s.r.1 ≤ k ∧ k ≤ s.r.2), X.2)
  | 1 => (fun k => X.1 k ∧ ¬ (s.r.1 ≤ k ∧ k ≤ s.r.2), X.2)
  | 2 => (fun k => X.1 k ∨ ((pfR s.r.1 s.bits).1 ≤ k ∧ k ≤ (pfR s.r.1 s.bits).2), X.2)
  | 3 => (fun k => X.1 k ∧ ¬ ((pfR s.r.1 s.bits).1 ≤ k ∧ k ≤ (pfR s.r.1 s.bits).2), X.2)
  | 4 => (fun k => X.1 k ∨ (s.r.1 ≤ k ∧ k ≤ s.r.1), X.2)
  | 5 => (fun k => X.1 k ∧ ¬ (s.r.1 ≤ k ∧ k ≤ s.r.1), X.2)
  | 6 => (fun k => okK k ∧ ¬ X.1 k, X.2)
  | 7 => (X.1, X.1)
  | 8 => (fun k => X.1 k ∨ X.2 k, X.2)
  | 9 => (fun k => X.1 k ∧ ¬ X.2 k, X.2)
  | _ => (fun k => X.1 k ∧ ¬ (okK k ∧ ¬ X.2 k), X.2)
def runS (g : Nat → StepV) : Nat → (Nat → Prop) × (Nat → Prop)
  | 0 => (fun _ => False, fun _ => False)
  | i + 1 => stepS (g i) (runS g i)
/-- How long lists get by a step. -/
def grow (c N m N' m' : Nat) : Prop := (c = 7 ∧ N' ≤ N ∧ m' ≤ N) ∨ (c ≤ 5 ∧ N' ≤ N + 1 ∧ m' ≤ m) ∨ (c ≠ 7 ∧ 6 ≤ c ∧ N' ≤ N + m + 2 ∧ m' ≤ m)
/-- A bound on lengths that n steps keep. -/
structure LimS (n : Nat) (g : Nat → StepV) (L : Nat → Nat → Nat → Prop) : Prop where
  z : L 0 0 0
  s : ∀ i N m N' m', i < n → L i N m → grow (g i).kind N m N' m' → L (i + 1) N' m'
  b : ∀ i N m, i ≤ n → L i N m → N ≤ 15000000 ∧ m ≤ 15000000
theorem LimS.bb {n : Nat} {g : Nat → StepV} {L : Nat → Nat → Nat → Prop} (H : LimS n g L) {i N m : Nat} (hi : i ≤ n) (h : L i N m) : N ≤ 15000000 ∧ m ≤ 15000000 := H.b i N m hi h
/-- At most 40 steps of whatever kind. -/
theorem lim40 {n : Nat} (g : Nat → StepV) (hn : n ≤ 40) : LimS n g Gro :=
  ⟨Gro.start, fun i N m N' m' hi G h => by
    rcases h with ⟨_, a, b⟩ | ⟨_, a, b⟩ | ⟨_, _, a, b⟩
    · exact G.keep a b
    · exact G.add (by omega) b
    · exact G.add a b, fun i N m hi G => by have := G.bound (by omega); omega⟩
/-- Whatever number of steps that add a range. -/
theorem limAdd {n : Nat} (g : Nat → StepV) (hn : n ≤ 15000000) (h0 : ∀ i, i < n → (g i).kind = 0) : LimS n g (fun i N m => N ≤ i ∧ m = 0) :=
  ⟨⟨Nat.le_refl _, rfl⟩, fun i N m N' m' hi G h => by
    have := h0 i hi
    rcases h with ⟨q, a, b⟩ | ⟨_, a, b⟩ | ⟨_, q, a, b⟩
    · omega
    · omega
    · omega, fun i N m hi G => by omega⟩
/-- Between two steps: the builder B of the set S, the kept set at P. -/
def PlayR (w wr : World) (B P : Nat) (S K : Nat → Prop) (N m : Nat) : Prop :=
  ∃ vi vo v h, Chg (fun _ => False) w wr ∧ Bs wr B vi vo N S ∧ SetAt wr P v m h ∧ Apt v vi vo ∧ (∀ k, MemR m h k ↔ K k) ∧ w.heap.size ≤ B ∧ ∀ k, (vi.ownBlock = some k ∨ vo.ownBlock = some k) → w.heap.size ≤ k
theorem Moved.chg0 {w wr w2 : World} {B : Nat} {vi vo vi' vo' : Value} (C : Chg (fun _ => False) w wr) (M : Moved wr w2 B vi vo vi' vo') (hB : w.heap.size ≤ B) (ho : ∀ k, (vi.ownBlock = some k ∨ vo.ownBlock = some k) → w.heap.size ≤ k) :
    Chg (fun _ => False) w w2 ∧ ∀ k, (vi'.ownBlock = some k ∨ vo'.ownBlock = some k) → w.heap.size ≤ k := by
  refine ⟨⟨M.chg.os.trans C.os, M.chg.tape.trans C.tape, M.chg.output.trans C.output, Nat.le_trans C.size M.chg.size, fun k hk _ => (M.chg.block k (Nat.lt_of_lt_of_le hk C.size) (fun q => ?_)).trans (C.block k hk id)⟩, fun k q => ?_⟩
  · rcases q with q | q
    · omega
    · have := ho k q; omega
  · rcases M.own k q with q | q
    · exact ho k q
    · exact Nat.le_trans C.size q
theorem PlayR.stp {w wr w2 : World} {B P : Nat} {S K S' K' : Nat → Prop} {N N' m : Nat} {vi vo v : Value} {h : Nat → Nat × Nat} (C : Chg (fun _ => False) w wr) (H : Bs wr B vi vo N S) (T : SetAt wr P v m h) (A : Apt v vi vo) (hK : ∀ k, MemR m h k ↔ K k) (hB : w.heap.size ≤ B) (ho : ∀ k, (vi.ownBlock = some k ∨ vo.ownBlock = some k) → w.heap.size ≤ k)
    (Z : Stp wr B vi vo N' S' w2) {S2 : Nat → Prop} (e1 : ∀ k, S' k ↔ S2 k) (e2 : ∀ k, K k ↔ K' k) : PlayR w w2 B P S2 K' N' m := by
  obtain ⟨v1, v2, M, b⟩ := Z
  obtain ⟨T', A'⟩ := T.moved H A M
  obtain ⟨C', ho'⟩ := Moved.chg0 C M hB ho
  exact ⟨v1, v2, v, h, C', b.congr (Nat.le_refl _) e1, T', A', fun k => (hK k).trans (e2 k), hB, ho'⟩
/-- A set kept anew. -/
theorem PlayR.keep {w wr w2 w3 : World} {B P Q P' : Nat} {S K S2 K2 : Nat → Prop} {N m m' : Nat} {vi vo v v1 v2 v3 u : Value} {h h' : Nat → Nat × Nat} (C : Chg (fun _ => False) w wr) (H : Bs wr B vi vo N S) (hB : w.heap.size ≤ B) (ho : ∀ k, (vi.ownBlock = some k ∨ vo.ownBlock = some k) → w.heap.size ≤ k)
    (c : Chg (fun _ => False) wr w2) (hQ : wr.heap.size ≤ Q) (hq : ∀ k, (v1.ownBlock = some k ∨ v2.ownBlock = some k) → wr.heap.size ≤ k) (I : Ips w2 Q v1 v2 N S w3 P' v3 u m' h') (e1 : ∀ k, S k ↔ S2 k) (e2 : ∀ k, S k ↔ K2 k) : PlayR w w3 B P' S2 K2 N m' := by
  have D := (Moved.chg0 c I.mv hQ hq).1
  have hl := H.lt
  refine ⟨vi, vo, u, h', C.trans D, (H.chg0 D).congr (Nat.le_refl _) e1, I.set, fun k e q => ?_, fun k => (I.mem k).trans (e2 k), hB, ho⟩
  have := I.hu k e
  have := hl.2 k q
  have := c.size
  omega
end Go.Proofs.YtmoabfpdlbngeaaGreatDoor
end

section
namespace Go.Proofs.YtmoabfpdlbngeaaGreatDoor
open Go.RowKit
set_option maxHeartbeats 400000
set_option linter.unusedVariables false
set_option linter.unusedSimpArgs false
/-- What a function of the reference hands back: a row of its own, in order, of the set S, at most N long. -/
def ResQ (w w' : World) (v : Value) (m : Nat) (h : Nat → Nat × Nat) (S : Nat → Prop) (N : Nat) : Prop :=
  Chg (fun _ => False) w w' ∧ OwnDV layQ 40 w' v m h ∧ (∀ k, v.ownBlock = some k → w.heap.size ≤ k) ∧ CanonR m h ∧ (∀ k, MemR m h k ↔ S k) ∧ m ≤ N
theorem Rd.newAt {W : World} {B : Nat} (cs : Array Value) (r : Nat × Nat) (hB : B = W.heap.size) (hcs : cs.toList = rqL r) : Rd layQ (W.alloc (.cells cs 40)) (.slice (some ⟨B, 0, none⟩) 1 1) 1 (fun _ => r) := by
  subst hB
  exact Rd.new (D := layQ) (E := 40) W cs r hcs
theorem newRq (W : World) (r : Nat × Nat) : (W.alloc (.cells #[.bool (sK r.1), .int .u64 (hK r.1), .int .u64 (mK r.1), .bool (sK r.2), .int .u64 (hK r.2), .int .u64 (mK r.2)] 40)).rangeAt W.heap.size 0 (rqL r) :=
  rangeAt_of _ _ _ 40 (heap_alloc_new W _) 0 _ (fun j hj => by rw [Nat.zero_add, ← Array.getElem?_toList]; rfl)
/-- A loop of the reference that gathers a row, beside the block of its range r. -/
structure MnR (w wr : World) (r : Nat × Nat) (v : Value) (m : Nat) (h : Nat → Nat × Nat) : Prop where
  chg : Chg (fun _ => False) w wr
  own : OwnDV layQ 40 wr v m h
  ge : ∀ k, v.ownBlock = some k → w.heap.size + 1 ≤ k
  blk : wr.heap[w.heap.size]? = some (.cells #[.bool (sK r.1), .int .u64 (hK r.1), .int .u64 (mK r.1), .bool (sK r.2), .int .u64 (hK r.2), .int .u64 (mK r.2)] 40 (0, 0))
theorem MnR.lt {w wr : World} {r : Nat × Nat} {v : Value} {m : Nat} {h : Nat → Nat × Nat} (H : MnR w wr r v m h) : w.heap.size < wr.heap.size := (Array.getElem?_eq_some_iff.1 H.blk).1
theorem MnR.cells {w wr : World} {r : Nat × Nat} {v : Value} {m : Nat} {h : Nat → Nat × Nat} (H : MnR w wr r v m h) : wr.rangeAt w.heap.size 0 (rqL r) := rangeAt_of _ _ _ 40 H.blk 0 _ (fun j hj => by rw [Nat.zero_add, ← Array.getElem?_toList]; rfl)
theorem MnR.chg0 {w wr W : World} {r : Nat × Nat} {v : Value} {m : Nat} {h : Nat → Nat × Nat} (H : MnR w wr r v m h) (C : Chg (fun _ => False) wr W) : MnR w W r v m h :=
  ⟨H.chg.trans C, H.own.chg C (fun _ _ => id), H.ge, (C.block _ H.lt id).trans H.blk⟩
theorem MnR.app {w W w2 : World} {r : Nat × Nat} {v v' : Value} {m m' : Nat} {h h' : Nat → Nat × Nat} (H : MnR w W r v m h) (hO : OwnDV layQ 40 w2 v' m' h') (hC : Chg (AtV v) W w2) (hat : v'.ownBlock = v.ownBlock ∨ v'.ownBlock = some W.heap.size) : MnR w w2 r v' m' h' := by
  refine ⟨Chg.app H.chg hC (fun k e => by have := H.ge k e; omega), hO, fun k e => ?_, (hC.block _ H.lt (fun q => by have := H.ge _ q; omega)).trans H.blk⟩
  rcases hat with q | q
  · exact H.ge k (by rw [← q]; exact e)
  · rw [q] at e
    have := H.lt
    simp only [Option.some.injEq] at e
    omega
set_option maxHeartbeats 2000000 in
theorem c21 (v0 : Value) (n : Nat) (f : Nat → Nat × Nat) (hn : n ≤ 40000000) (r : Nat × Nat) (or : okR r) (w : World) (H : Rd layQ w v0 n f) (C : CanonR n f) :
    Calls Tryz.prog 21 #[v0, .agg #[.bool (sK r.1), .int .u64 (hK r.1), .int .u64 (mK r.1), .bool (sK r.2), .int .u64 (hK r.2), .int .u64 (mK r.2)]] w fun e w' => ∃ v m h, e = .returned v ∧ Hid (ResQ w w' v m h (fun k => MemR n f k ∧ ¬ (r.1 ≤ k ∧ k ≤ r.2)) (n + 1)) := by
  obtain ⟨p, c, rfl, hnc, hr⟩ := H
  have HR : Hid _ := hr
  have HC : Hid _ := C
  have orr : Hid _ := or
  have or1 := or.a
  have or2 := or.b
  clear hr C or
  have or : Hid _ := orr.out
  clear orr
  go_enter Tryz.func21, Tryz.ntmps21

  go_wp2_with fail
  go_loopw [5, 14] (fun t5 t14 wr => ∃ (i m : Nat) (p0 : Option Addr) (c0 : Nat) (h : Nat → Nat × Nat), t14 = .int .i64 i ∧ t5 = .slice p0 m c0 ∧ i ≤ n ∧ Hid (MnR w wr r (.slice p0 m c0) m h ∧ MinI n f r i m h))
    (fun _ t14 _ => n - (intOf t14).toNat)
  case atStart => exact ⟨0, 0, none, 0, f, rfl, rfl, Nat.zero_le _, ⟨by (repeat (with_reducible first |  refine Chg.plus ?_ _ _ | refine Chg.alloc ?_ _ | refine Chg.drew ?_ | exact Chg.refl _ _)), .nil _, fun k e => by simp [Value.ownBlock] at e, heap_alloc_new w _⟩, .start⟩
  case round =>
    obtain ⟨i, m, p0, c0, h, rfl, rfl, hi, X⟩ := hrel
    have HM : Hid (MnR w wr r (.slice p0 m c0) m h) := X.out.1
    have HX : Hid (MinI n f r i m h) := X.out.2
    clear X
    by_cases hlt : i < n
    · obtain ⟨G, o, rfl, hrow⟩ := HR.out (by omega)
      have r1 : wr.rangeAt G (o + i * 6) (rqL (f i)) := rangeAt_chg HM.out.chg (hrow i hlt) id
      obtain ⟨ca0, ca1, ca2, ca3, ca4, ca5⟩ := rq_cells r1
      obtain ⟨cb0, cb1, cb2, cb3, cb4, cb5⟩ := rq_cells HM.out.cells
      have hG : G < wr.heap.size := World.block_lt_of_cell? _ _ ca0
      have hB : w.heap.size < wr.heap.size := HM.out.lt
      have oki : Hid (okR (f i)) := HC.out.ok i hlt
      have oi1 := oki.out.a
      have oi2 := oki.out.b
      have g1 := oki.out.le
      have g2 := or.out.le
      clear hrow r1
      by_cases hap : (f i).2 < r.1 ∨ r.2 < (f i).1
      · have HAP : Hid (decide ((f i).2 < r.1 ∨ r.2 < (f i).1) = true) := decide_eq_true hap
        have HI : Hid (MinI n f r (i + 1) (m + 1) (snoc m h (f i))) := MinI.apart HC.out HX.out hlt hap
        have hm2 : m ≤ n + 1 := by rcases HX.out.le with q | ⟨q, _⟩ <;> omega
        clear HX hap g1 g2
        go_wp2_with (first | (go_at_call 47; (with_reducible refine (k47 (f i) r oki.out or.out _ HAP.out _).mono ?_); rintro e w' ⟨rfl, dd, oo, rfl⟩) | (at_builtin; refine appD rfl (.tmp 21) (.tmp 23) 25 48 infoQ under25 (by omega) rfl (.slice p0 m c0) m h rfl ((HM.out.chg0 (by (repeat (with_reducible first | exact Chg.refl _ _ | refine Chg.plus ?_ _ _ | refine Chg.alloc ?_ _ | refine Chg.drew ?_)))).own) 1 (fun _ => (f i)) (Rd.newAt _ (f i) (by simp) rfl) (by omega) ?_; intro p1 c1 w1 hO1 hC1 hat1; have HM1 : Hid (MnR w w1 r (.slice p1 (m + 1) c1) (m + 1) (snoc m h (f i))) := MnR.app (HM.out.chg0 (by (repeat (with_reducible first | exact Chg.refl _ _ | refine Chg.plus ?_ _ _ | refine Chg.alloc ?_ _ | refine Chg.drew ?_)))) hO1.out hC1 hat1.out; clear hO1 hC1 hat1; have hl1 := HM1.out.lt; obtain ⟨db0, db1, db2, db3, db4, db5⟩ := rq_cells HM1.out.cells))
        go_roundw
        case rel => exact ⟨i + 1, m + 1, p1, c1, snoc m h (f i), by go_num, rfl, by omega, HM1.out.chg0 (by (repeat (with_reducible first | exact Chg.refl _ _ | refine Chg.plus ?_ _ _ | refine Chg.alloc ?_ _ | refine Chg.drew ?_))), HI.out⟩
        case measure => simp [intOf]; omega

      · have HAP : Hid (decide ((f i).2 < r.1 ∨ r.2 < (f i).1) = false) := decide_eq_false hap
        by_cases q1 : (f i).1 < r.1
        · by_cases q2 : r.2 < (f i).2
          · have HI : Hid (MinI n f r (i + 1) (m + 1 + 1) (snoc (m + 1) (snoc m h ((f i).1, r.1 - 1)) (r.2 + 1, (f i).2))) := MinI.both HC.out HX.out hlt or.out.le (by omega) (by omega)
            obtain ⟨y1, hy1⟩ : ∃ y, cmpN (f i).1 r.1 = y := ⟨_, rfl⟩
            obtain ⟨y2, hy2⟩ : ∃ y, cmpN r.2 (f i).2 = y := ⟨_, rfl⟩
            have d1 : y1 < 0 := by rw [← hy1]; unfold cmpN; (repeat' split) <;> omega
            have d2 : y2 < 0 := by rw [← hy2]; unfold cmpN; (repeat' split) <;> omega
            have HY1 : Hid _ := hy1
            have HY2 : Hid _ := hy2
            clear hy1 hy2
            have hj : 0 < r.1 := by omega
            have HR1 : Hid (okK (r.1 - 1)) := (ok_between oki.out.a oki.out.b oki.out.s (by omega) (by omega)).1
            have HR2 : Hid (okK (r.2 + 1)) := (ok_between oki.out.a oki.out.b oki.out.s (by omega) (by omega)).1
            have hm2 : m ≤ n + 1 := by rcases HX.out.le with q | ⟨q, _⟩ <;> omega
            clear HX hap g1 g2
            go_wp2_with (first | (go_at_call 47; (with_reducible refine (k47 (f i) r oki.out or.out _ HAP.out _).mono ?_); rintro e w' ⟨rfl, dd, oo, rfl⟩) | (go_at_call 39; (with_reducible refine (k39 _ _ oi1 or1 y1 HY1.out _).mono ?_); rintro e w' ⟨rfl, dd, oo, rfl⟩) | (go_at_call 39; (with_reducible refine (k39 _ _ or2 oi2 y2 HY2.out _).mono ?_); rintro e w' ⟨rfl, dd, oo, rfl⟩) | (go_at_call 48; (with_reducible refine (k48 r.1 hj or1 HR1.out _).mono ?_); rintro e w' ⟨rfl, dd, oo, rfl⟩) | (at_builtin; refine appD rfl (.tmp 37) (.tmp 42) 25 48 infoQ under25 (by omega) rfl (.slice p0 m c0) m h rfl ((HM.out.chg0 (by (repeat (with_reducible first | exact Chg.refl _ _ | refine Chg.plus ?_ _ _ | refine Chg.alloc ?_ _ | refine Chg.drew ?_)))).own) 1 (fun _ => ((f i).1, r.1 - 1)) (Rd.newAt _ ((f i).1, r.1 - 1) (by simp) rfl) (by omega) ?_; intro p1 c1 w1 hO1 hC1 hat1; have HM1 : Hid (MnR w w1 r (.slice p1 (m + 1) c1) (m + 1) (snoc m h ((f i).1, r.1 - 1))) := MnR.app (HM.out.chg0 (by (repeat (with_reducible first | exact Chg.refl _ _ | refine Chg.plus ?_ _ _ | refine Chg.alloc ?_ _ | refine Chg.drew ?_)))) hO1.out hC1 hat1.out; have hxx := rangeAt_chg (F := AtV _) hC1 (rangeAt_chg (F := fun _ => False) (by (repeat (with_reducible first | exact Chg.refl _ _ | refine Chg.plus ?_ _ _ | refine Chg.alloc ?_ _ | refine Chg.drew ?_))) (newRq wr (f i)) id) (fun q => by have := HM.out.own.lt q; omega); obtain ⟨dx0, dx1, dx2, dx3, dx4, dx5⟩ := rq_cells hxx; have hlx := World.block_lt_of_cell? _ _ dx0; clear hxx; clear hO1 hC1 hat1; have hl1 := HM1.out.lt; obtain ⟨db0, db1, db2, db3, db4, db5⟩ := rq_cells HM1.out.cells) | (go_at_call 40; (with_reducible refine (k40 r.2 or2 HR2.out _).mono ?_); rintro e w' ⟨rfl, dd, oo, rfl⟩) | (at_builtin; refine appD rfl (.tmp 56) (.tmp 61) 25 48 infoQ under25 (by omega) rfl (.slice p1 (m + 1) c1) (m + 1) (snoc m h ((f i).1, r.1 - 1)) rfl ((HM1.out.chg0 (by (repeat (with_reducible first | exact Chg.refl _ _ | refine Chg.plus ?_ _ _ | refine Chg.alloc ?_ _ | refine Chg.drew ?_)))).own) 1 (fun _ => (r.2 + 1, (f i).2)) (Rd.newAt _ (r.2 + 1, (f i).2) (by simp) rfl) (by omega) ?_; intro p2 c2 w2 hO2 hC2 hat2; have HM2 : Hid (MnR w w2 r (.slice p2 ((m + 1) + 1) c2) ((m + 1) + 1) (snoc (m + 1) (snoc m h ((f i).1, r.1 - 1)) (r.2 + 1, (f i).2))) := MnR.app (HM1.out.chg0 (by (repeat (with_reducible first | exact Chg.refl _ _ | refine Chg.plus ?_ _ _ | refine Chg.alloc ?_ _ | refine Chg.drew ?_)))) hO2.out hC2 hat2.out; clear hO2 hC2 hat2; have hl2 := HM2.out.lt; obtain ⟨db0, db1, db2, db3, db4, db5⟩ := rq_cells HM2.out.cells))
            go_roundw
            case rel => exact ⟨i + 1, m + 1 + 1, p2, c2, snoc (m + 1) (snoc m h ((f i).1, r.1 - 1)) (r.2 + 1, (f i).2), by go_num, rfl, by omega, HM2.out.chg0 (by (repeat (with_reducible first | exact Chg.refl _ _ | refine Chg.plus ?_ _ _ | refine Chg.alloc ?_ _ | refine Chg.drew ?_))), HI.out⟩
            case measure => simp [intOf]; omega

          · have HI : Hid (MinI n f r (i + 1) (m + 1) (snoc m h ((f i).1, r.1 - 1))) := MinI.left HC.out HX.out hlt or.out.le (by omega) (by omega) (by omega)
            obtain ⟨y1, hy1⟩ : ∃ y, cmpN (f i).1 r.1 = y := ⟨_, rfl⟩
            obtain ⟨y2, hy2⟩ : ∃ y, cmpN r.2 (f i).2 = y := ⟨_, rfl⟩
            have d1 : y1 < 0 := by rw [← hy1]; unfold cmpN; (repeat' split) <;> omega
            have d2 : 0 ≤ y2 := by rw [← hy2]; unfold cmpN; (repeat' split) <;> omega
            have HY1 : Hid _ := hy1
            have HY2 : Hid _ := hy2
            clear hy1 hy2
            have hj : 0 < r.1 := by omega
            have HR1 : Hid (okK (r.1 - 1)) := (ok_between oki.out.a oki.out.b oki.out.s (by omega) (by omega)).1
            have hm2 : m ≤ n + 1 := by rcases HX.out.le with q | ⟨q, _⟩ <;> omega
            clear HX hap g1 g2
            go_wp2_with (first | (go_at_call 47; (with_reducible refine (k47 (f i) r oki.out or.out _ HAP.out _).mono ?_); rintro e w' ⟨rfl, dd, oo, rfl⟩) | (go_at_call 39; (with_reducible refine (k39 _ _ oi1 or1 y1 HY1.out _).mono ?_); rintro e w' ⟨rfl, dd, oo, rfl⟩) | (go_at_call 39; (with_reducible refine (k39 _ _ or2 oi2 y2 HY2.out _).mono ?_); rintro e w' ⟨rfl, dd, oo, rfl⟩) | (go_at_call 48; (with_reducible refine (k48 r.1 hj or1 HR1.out _).mono ?_); rintro e w' ⟨rfl, dd, oo, rfl⟩) | (at_builtin; refine appD rfl (.tmp 37) (.tmp 42) 25 48 infoQ under25 (by omega) rfl (.slice p0 m c0) m h rfl ((HM.out.chg0 (by (repeat (with_reducible first | exact Chg.refl _ _ | refine Chg.plus ?_ _ _ | refine Chg.alloc ?_ _ | refine Chg.drew ?_)))).own) 1 (fun _ => ((f i).1, r.1 - 1)) (Rd.newAt _ ((f i).1, r.1 - 1) (by simp) rfl) (by omega) ?_; intro p1 c1 w1 hO1 hC1 hat1; have HM1 : Hid (MnR w w1 r (.slice p1 (m + 1) c1) (m + 1) (snoc m h ((f i).1, r.1 - 1))) := MnR.app (HM.out.chg0 (by (repeat (with_reducible first | exact Chg.refl _ _ | refine Chg.plus ?_ _ _ | refine Chg.alloc ?_ _ | refine Chg.drew ?_)))) hO1.out hC1 hat1.out; have hxx := rangeAt_chg (F := AtV _) hC1 (rangeAt_chg (F := fun _ => False) (by (repeat (with_reducible first | exact Chg.refl _ _ | refine Chg.plus ?_ _ _ | refine Chg.alloc ?_ _ | refine Chg.drew ?_))) (newRq wr (f i)) id) (fun q => by have := HM.out.own.lt q; omega); obtain ⟨dx0, dx1, dx2, dx3, dx4, dx5⟩ := rq_cells hxx; have hlx := World.block_lt_of_cell? _ _ dx0; clear hxx; clear hO1 hC1 hat1; have hl1 := HM1.out.lt; obtain ⟨db0, db1, db2, db3, db4, db5⟩ := rq_cells HM1.out.cells))
            go_roundw
            case rel => exact ⟨i + 1, m + 1, p1, c1, snoc m h ((f i).1, r.1 - 1), by go_num, rfl, by omega, HM1.out.chg0 (by (repeat (with_reducible first | exact Chg.refl _ _ | refine Chg.plus ?_ _ _ | refine Chg.alloc ?_ _ | refine Chg.drew ?_))), HI.out⟩
            case measure => simp [intOf]; omega

        · by_cases q2 : r.2 < (f i).2
          · have HI : Hid (MinI n f r (i + 1) (m + 1) (snoc m h (r.2 + 1, (f i).2))) := MinI.right HC.out HX.out hlt or.out.le (by omega) (by omega) (by omega)
            obtain ⟨y1, hy1⟩ : ∃ y, cmpN (f i).1 r.1 = y := ⟨_, rfl⟩
            obtain ⟨y2, hy2⟩ : ∃ y, cmpN r.2 (f i).2 = y := ⟨_, rfl⟩
            have d1 : 0 ≤ y1 := by rw [← hy1]; unfold cmpN; (repeat' split) <;> omega
            have d2 : y2 < 0 := by rw [← hy2]; unfold cmpN; (repeat' split) <;> omega
            have HY1 : Hid _ := hy1
            have HY2 : Hid _ := hy2
            clear hy1 hy2
            have HR2 : Hid (okK (r.2 + 1)) := (ok_between oki.out.a oki.out.b oki.out.s (by omega) (by omega)).1
            have hm2 : m ≤ n + 1 := by rcases HX.out.le with q | ⟨q, _⟩ <;> omega
            clear HX hap g1 g2
            go_wp2_with (first | (go_at_call 47; (with_reducible refine (k47 (f i) r oki.out or.out _ HAP.out _).mono ?_); rintro e w' ⟨rfl, dd, oo, rfl⟩) | (go_at_call 39; (with_reducible refine (k39 _ _ oi1 or1 y1 HY1.out _).mono ?_); rintro e w' ⟨rfl, dd, oo, rfl⟩) | (go_at_call 39; (with_reducible refine (k39 _ _ or2 oi2 y2 HY2.out _).mono ?_); rintro e w' ⟨rfl, dd, oo, rfl⟩) | (go_at_call 40; (with_reducible refine (k40 r.2 or2 HR2.out _).mono ?_); rintro e w' ⟨rfl, dd, oo, rfl⟩) | (at_builtin; refine appD rfl (.tmp 56) (.tmp 61) 25 48 infoQ under25 (by omega) rfl (.slice p0 m c0) m h rfl ((HM.out.chg0 (by (repeat (with_reducible first | exact Chg.refl _ _ | refine Chg.plus ?_ _ _ | refine Chg.alloc ?_ _ | refine Chg.drew ?_)))).own) 1 (fun _ => (r.2 + 1, (f i).2)) (Rd.newAt _ (r.2 + 1, (f i).2) (by simp) rfl) (by omega) ?_; intro p1 c1 w1 hO1 hC1 hat1; have HM1 : Hid (MnR w w1 r (.slice p1 (m + 1) c1) (m + 1) (snoc m h (r.2 + 1, (f i).2))) := MnR.app (HM.out.chg0 (by (repeat (with_reducible first | exact Chg.refl _ _ | refine Chg.plus ?_ _ _ | refine Chg.alloc ?_ _ | refine Chg.drew ?_)))) hO1.out hC1 hat1.out; clear hO1 hC1 hat1; have hl1 := HM1.out.lt; obtain ⟨db0, db1, db2, db3, db4, db5⟩ := rq_cells HM1.out.cells))
            go_roundw
            case rel => exact ⟨i + 1, m + 1, p1, c1, snoc m h (r.2 + 1, (f i).2), by go_num, rfl, by omega, HM1.out.chg0 (by (repeat (with_reducible first | exact Chg.refl _ _ | refine Chg.plus ?_ _ _ | refine Chg.alloc ?_ _ | refine Chg.drew ?_))), HI.out⟩
            case measure => simp [intOf]; omega

          · have HI : Hid (MinI n f r (i + 1) (m) (h)) := MinI.gone HC.out HX.out hlt (by omega) (by omega)
            obtain ⟨y1, hy1⟩ : ∃ y, cmpN (f i).1 r.1 = y := ⟨_, rfl⟩
            obtain ⟨y2, hy2⟩ : ∃ y, cmpN r.2 (f i).2 = y := ⟨_, rfl⟩
            have d1 : 0 ≤ y1 := by rw [← hy1]; unfold cmpN; (repeat' split) <;> omega
            have d2 : 0 ≤ y2 := by rw [← hy2]; unfold cmpN; (repeat' split) <;> omega
            have HY1 : Hid _ := hy1
            have HY2 : Hid _ := hy2
            clear hy1 hy2
            have hm2 : m ≤ n + 1 := by rcases HX.out.le with q | ⟨q, _⟩ <;> omega
            clear HX hap g1 g2
            go_wp2_with (first | (go_at_call 47; (with_reducible refine (k47 (f i) r oki.out or.out _ HAP.out _).mono ?_); rintro e w' ⟨rfl, dd, oo, rfl⟩) | (go_at_call 39; (with_reducible refine (k39 _ _ oi1 or1 y1 HY1.out _).mono ?_); rintro e w' ⟨rfl, dd, oo, rfl⟩) | (go_at_call 39; (with_reducible refine (k39 _ _ or2 oi2 y2 HY2.out _).mono ?_); rintro e w' ⟨rfl, dd, oo, rfl⟩))
            go_roundw
            case rel => exact ⟨i + 1, m, p0, c0, h, by go_num, rfl, by omega, HM.out.chg0 (by (repeat (with_reducible first | exact Chg.refl _ _ | refine Chg.plus ?_ _ _ | refine Chg.alloc ?_ _ | refine Chg.drew ?_))), HI.out⟩
            case measure => simp [intOf]; omega

    · obtain rfl : i = n := by omega
      go_wp2_with fail
      go_ret
      obtain ⟨d1, d2, d3⟩ := HX.out.done
      exact ⟨_, m, h, rfl, HM.out.chg, HM.out.own, fun k e => by have := HM.out.ge k e; omega, d1, d2, d3⟩
end Go.Proofs.YtmoabfpdlbngeaaGreatDoor
end
