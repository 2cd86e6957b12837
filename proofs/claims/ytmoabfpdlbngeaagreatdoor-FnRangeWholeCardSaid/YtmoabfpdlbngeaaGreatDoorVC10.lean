/-
  Part of the proofs on the laws of pub-addresssets: joined texts (C10).
-/
import Derived.Test.YtmoabfpdlbngeaaGreatDoorVSF
section
namespace Go.Proofs.YtmoabfpdlbngeaaGreatDoor
open Go.RowKit
set_option maxHeartbeats 400000
set_option linter.unusedVariables false
set_option linter.unusedSimpArgs false
theorem OwnDV.newAt {α : Type} {D : Lay α} {E : TypeId} {W : World} {B : Nat} (cs : Array Value) (n : Nat) (f : Nat → α) (hB : B = W.heap.size) (hcs : cs.toList = cellsD D n f) (hn : n ≤ 1000000000) : OwnDV D E (W.alloc (.cells cs E)) (.slice (some ⟨B, 0, none⟩) n n) n f := by
  subst hB
  exact OwnDV.new W cs n f hcs hn
/-- Between two steps of the reference: the list of the set S, the kept list of T. -/
structure SpR (w wr : World) (v v5 : Value) (m K : Nat) (h hk : Nat → Nat × Nat) (S T : Nat → Prop) : Prop where
  chg : Chg (fun _ => False) w wr
  rl : Rd layQ wr v m h
  cl : CanonR m h
  ml : ∀ k, MemR m h k ↔ S k
  rk : Rd layQ wr v5 K hk
  ck : CanonR K hk
  mkk : ∀ k, MemR K hk k ↔ T k
theorem SpR.upd {w wr W w2 : World} {v v5 v' : Value} {m K m' N' : Nat} {h hk h' : Nat → Nat × Nat} {S T S' S2 T2 : Nat → Prop} (H : SpR w wr v v5 m K h hk S T) (C : Chg (fun _ => False) wr W) (Z : ReQ W w2 v' m' h' S' N') (e1 : ∀ k, S' k ↔ S2 k) (e2 : ∀ k, T k ↔ T2 k) : SpR w w2 v' v5 m' K h' hk S2 T2 :=
  ⟨(H.chg.trans C).trans Z.1, Z.2.1, Z.2.2.1, fun k => (Z.2.2.2.1 k).trans (e1 k), H.rk.chg0 (C.trans Z.1), H.ck, fun k => (H.mkk k).trans (e2 k)⟩
theorem SpR.same {w wr : World} {v v5 : Value} {m K : Nat} {h hk : Nat → Nat × Nat} {S T S2 T2 : Nat → Prop} (H : SpR w wr v v5 m K h hk S T) (e1 : ∀ k, S k ↔ S2 k) (e2 : ∀ k, T k ↔ T2 k) : SpR w wr v v5 m K h hk S2 T2 :=
  ⟨H.chg, H.rl, H.cl, fun k => (H.ml k).trans (e1 k), H.rk, H.ck, fun k => (H.mkk k).trans (e2 k)⟩
theorem SpR.chg0 {w wr W : World} {v v5 : Value} {m K : Nat} {h hk : Nat → Nat × Nat} {S T : Nat → Prop} (H : SpR w wr v v5 m K h hk S T) (C : Chg (fun _ => False) wr W) : SpR w W v v5 m K h hk S T :=
  ⟨H.chg.trans C, H.rl.chg0 C, H.cl, H.ml, H.rk.chg0 C, H.ck, H.mkk⟩
theorem SpR.keep {w wr w2 : World} {v v5 v' : Value} {m K : Nat} {h hk : Nat → Nat × Nat} {S T S2 T2 : Nat → Prop} (H : SpR w wr v v5 m K h hk S T) (C : Chg (fun _ => False) wr w2) (Z : Rd layQ w2 v' m h) (e1 : ∀ k, S k ↔ S2 k) (e2 : ∀ k, S k ↔ T2 k) : SpR w w2 v v' m m h h S2 T2 :=
  ⟨H.chg.trans C, H.rl.chg0 C, H.cl, fun k => (H.ml k).trans (e1 k), Z, H.cl, fun k => (H.ml k).trans (e2 k)⟩
set_option maxRecDepth 100000 in
set_option maxHeartbeats 4000000 in
theorem c10 (v0 : Value) (n : Nat) (g : Nat → StepV) (L : Nat → Nat → Nat → Prop) (hL : LimS n g L) (hn : n ≤ 15000000) (hg : ∀ i, i < n → okStep (g i)) (w : World) (H : Rd layS w v0 n g) :
    Calls Tryz.prog 10 #[v0] w fun e w' => ∃ p0 p1 m K c0 c1 h hk, e = .returned (.tuple #[.slice p0 m c0, .slice p1 K c1]) ∧ Hid (SpR w w' (.slice p0 m c0) (.slice p1 K c1) m K h hk (runS g n).1 (runS g n).2 ∧ m ≤ 15000000 ∧ K ≤ 15000000) := by
  obtain ⟨p, c, rfl, hnc, hr⟩ := H
  have HR : Hid _ := hr
  have HL : Hid _ := hL
  have HGK : Hid _ := hg
  clear hr hL hg
  go_enter Tryz.func10, Tryz.ntmps10

  go_wp2_with fail
  go_loopw [4, 5, 13] (fun t4 t5 t13 wr => ∃ (i m K : Nat) (p0 p1 : Option Addr) (c0 c1 : Nat) (h hk : Nat → Nat × Nat), t13 = .int .i64 i ∧ t4 = .slice p0 m c0 ∧ t5 = .slice p1 K c1 ∧ i ≤ n ∧ Hid (SpR w wr (.slice p0 m c0) (.slice p1 K c1) m K h hk (runS g i).1 (runS g i).2 ∧ L i m K))
    (fun _ _ t13 _ => n - (intOf t13).toNat)
  case atStart => exact ⟨0, 0, 0, none, none, 0, 0, allF, allF, rfl, rfl, rfl, Nat.zero_le _, ⟨.refl _ _, .nil _, .nil _, fun k => ⟨fun q => absurd q (MemR_zero _ _), fun q => q.elim⟩, .nil _, .nil _, fun k => ⟨fun q => absurd q (MemR_zero _ _), fun q => q.elim⟩⟩, HL.out.z⟩
  case round =>
    obtain ⟨i, m, K, p0, p1, c0, c1, h, hk, rfl, rfl, rfl, hi, X⟩ := hrel
    have HX : Hid (SpR w wr (.slice p0 m c0) (.slice p1 K c1) m K h hk (runS g i).1 (runS g i).2) := X.out.1
    have hLi : Hid (L i m K) := X.out.2
    have hb := HL.out.bb hi X.out.2
    have hmb := hb.1
    have hKb := hb.2
    clear X hb
    by_cases hlt : i < n
    · obtain ⟨G, o, rfl, hrow⟩ := HR.out (by omega)
      have r1 : wr.rangeAt G (o + i * 8) (stL (g i)) := rangeAt_chg HX.out.chg (hrow i hlt) id
      obtain ⟨ca0, ca1, ca2, ca3, ca4, ca5, ca6, ca7⟩ := st_cells r1
      have hG : G < wr.heap.size := World.block_lt_of_cell? _ _ ca0
      have ok : Hid (okStep (g i)) := HGK.out i hlt
      have oa : okK (g i).r.1 := ok.out.r.a
      have obt : Hid ((g i).bits ≤ lenK (g i).r.1) := ok.out.bits
      have hcs : (g i).kind = 0 ∨ (g i).kind = 1 ∨ (g i).kind = 2 ∨ (g i).kind = 3 ∨ (g i).kind = 4 ∨ (g i).kind = 5 ∨ (g i).kind = 6 ∨ (g i).kind = 7 ∨ (g i).kind = 8 ∨ (g i).kind = 9 ∨ (g i).kind = 10 := by have := ok.out.kind; omega
      clear hrow r1
      rcases hcs with hc | hc | hc | hc | hc | hc | hc | hc | hc | hc | hc
      · have ek : (g i).kind = 0 := hc
        have hSt : Hid (runS g (i + 1) = stepS ⟨0, (g i).r, (g i).bits⟩ (runS g i)) := by
          have e : runS g (i + 1) = stepS (g i) (runS g i) := rfl
          unfold Hid; rw [e, ← ek]
        rw [ek] at ca0
        have HG : Hid (∀ N' m', grow 0 m K N' m' → L (i + 1) N' m') := fun N' m' q => HL.out.s i m K N' m' hlt hLi.out (by rw [ek]; exact q)
        have cb0 : wr.cell? ⟨G, o + i * 8, none⟩ = some (.int .i64 0) := ca0
        clear ek hc ca0
        go_wp2_with fail
        refine (c36 _ m h (by omega) (g i).r ok.out.r _ (Rd.chg0 HX.out.rl (by (repeat (with_reducible first | exact Chg.refl _ _ | exact HC1.out | refine Chg.plus ?_ _ _ | refine Chg.alloc ?_ _ | refine Chg.drew ?_)))) HX.out.cl).mono ?_
        rintro e w2 ⟨v, m2, h2, rfl, Z⟩
        obtain ⟨p2, c2, rfl, _⟩ : ∃ p c, v = .slice p m2 c ∧ m2 ≤ c := by obtain ⟨p, c, e, l, _⟩ := (ResQ.re Z.out).2.1; exact ⟨p, c, e, l⟩
        have hl2 := (ResQ.re Z.out).2.2.2.2
        have HZ : Hid (SpR w w2 (.slice p2 m2 c2) (.slice p1 K c1) m2 K h2 hk (runS g (i + 1)).1 (runS g (i + 1)).2) := SpR.upd HX.out (by (repeat (with_reducible first | exact Chg.refl _ _ | exact HC1.out | refine Chg.plus ?_ _ _ | refine Chg.alloc ?_ _ | refine Chg.drew ?_))) (ResQ.re Z.out) (fun k => by
          rw [hSt.out]
          show (MemR m h k ∨ _) ↔ ((runS g i).1 k ∨ _); rw [HX.out.ml k]) (fun k => by rw [hSt.out]; exact Iff.rfl)
        have HLn : Hid (L (i + 1) m2 K) := HG.out _ _ (by unfold grow; omega)
        clear Z cb0 ca1 ca2 ca3 ca4 ca5 ca6 ca7
        go_wp2_with fail
        go_roundw
        case rel => exact ⟨i + 1, m2, K, p2, p1, c2, c1, h2, hk, by go_num, rfl, rfl, by omega, HZ.out, HLn.out⟩
        case measure => simp [intOf]; omega
      · have ek : (g i).kind = 1 := hc
        have hSt : Hid (runS g (i + 1) = stepS ⟨1, (g i).r, (g i).bits⟩ (runS g i)) := by
          have e : runS g (i + 1) = stepS (g i) (runS g i) := rfl
          unfold Hid; rw [e, ← ek]
        rw [ek] at ca0
        have HG : Hid (∀ N' m', grow 1 m K N' m' → L (i + 1) N' m') := fun N' m' q => HL.out.s i m K N' m' hlt hLi.out (by rw [ek]; exact q)
        have cb0 : wr.cell? ⟨G, o + i * 8, none⟩ = some (.int .i64 1) := ca0
        clear ek hc ca0
        go_wp2_with fail
        refine (c21 _ m h (by omega) (g i).r ok.out.r _ (Rd.chg0 HX.out.rl (by (repeat (with_reducible first | exact Chg.refl _ _ | exact HC1.out | refine Chg.plus ?_ _ _ | refine Chg.alloc ?_ _ | refine Chg.drew ?_)))) HX.out.cl).mono ?_
        rintro e w2 ⟨v, m2, h2, rfl, Z⟩
        obtain ⟨p2, c2, rfl, _⟩ : ∃ p c, v = .slice p m2 c ∧ m2 ≤ c := by obtain ⟨p, c, e, l, _⟩ := (ResQ.re Z.out).2.1; exact ⟨p, c, e, l⟩
        have hl2 := (ResQ.re Z.out).2.2.2.2
        have HZ : Hid (SpR w w2 (.slice p2 m2 c2) (.slice p1 K c1) m2 K h2 hk (runS g (i + 1)).1 (runS g (i + 1)).2) := SpR.upd HX.out (by (repeat (with_reducible first | exact Chg.refl _ _ | exact HC1.out | refine Chg.plus ?_ _ _ | refine Chg.alloc ?_ _ | refine Chg.drew ?_))) (ResQ.re Z.out) (fun k => by
          rw [hSt.out]
          show (MemR m h k ∧ _) ↔ ((runS g i).1 k ∧ _); rw [HX.out.ml k]) (fun k => by rw [hSt.out]; exact Iff.rfl)
        have HLn : Hid (L (i + 1) m2 K) := HG.out _ _ (by unfold grow; omega)
        clear Z cb0 ca1 ca2 ca3 ca4 ca5 ca6 ca7
        go_wp2_with fail
        go_roundw
        case rel => exact ⟨i + 1, m2, K, p2, p1, c2, c1, h2, hk, by go_num, rfl, rfl, by omega, HZ.out, HLn.out⟩
        case measure => simp [intOf]; omega
      · have ek : (g i).kind = 2 := hc
        have hSt : Hid (runS g (i + 1) = stepS ⟨2, (g i).r, (g i).bits⟩ (runS g i)) := by
          have e : runS g (i + 1) = stepS (g i) (runS g i) := rfl
          unfold Hid; rw [e, ← ek]
        rw [ek] at ca0
        have HG : Hid (∀ N' m', grow 2 m K N' m' → L (i + 1) N' m') := fun N' m' q => HL.out.s i m K N' m' hlt hLi.out (by rw [ek]; exact q)
        have cb0 : wr.cell? ⟨G, o + i * 8, none⟩ = some (.int .i64 2) := ca0
        clear ek hc ca0
        go_wp2_with (first | (go_at_call 19; (with_reducible refine (k19 (g i).r.1 (g i).bits oa obt.out _).mono ?_); rintro e w' ⟨rfl, dd, oo, rfl⟩))
        refine (c36 _ m h (by omega) (pfR (g i).r.1 (g i).bits) (pfR_ok _ _ oa obt.out) _ (Rd.chg0 HX.out.rl (by (repeat (with_reducible first | exact Chg.refl _ _ | exact HC1.out | refine Chg.plus ?_ _ _ | refine Chg.alloc ?_ _ | refine Chg.drew ?_)))) HX.out.cl).mono ?_
        rintro e w2 ⟨v, m2, h2, rfl, Z⟩
        obtain ⟨p2, c2, rfl, _⟩ : ∃ p c, v = .slice p m2 c ∧ m2 ≤ c := by obtain ⟨p, c, e, l, _⟩ := (ResQ.re Z.out).2.1; exact ⟨p, c, e, l⟩
        have hl2 := (ResQ.re Z.out).2.2.2.2
        have HZ : Hid (SpR w w2 (.slice p2 m2 c2) (.slice p1 K c1) m2 K h2 hk (runS g (i + 1)).1 (runS g (i + 1)).2) := SpR.upd HX.out (by (repeat (with_reducible first | exact Chg.refl _ _ | exact HC1.out | refine Chg.plus ?_ _ _ | refine Chg.alloc ?_ _ | refine Chg.drew ?_))) (ResQ.re Z.out) (fun k => by
          rw [hSt.out]
          show (MemR m h k ∨ _) ↔ ((runS g i).1 k ∨ _); rw [HX.out.ml k]) (fun k => by rw [hSt.out]; exact Iff.rfl)
        have HLn : Hid (L (i + 1) m2 K) := HG.out _ _ (by unfold grow; omega)
        clear Z cb0 ca1 ca2 ca3 ca4 ca5 ca6 ca7
        go_wp2_with fail
        go_roundw
        case rel => exact ⟨i + 1, m2, K, p2, p1, c2, c1, h2, hk, by go_num, rfl, rfl, by omega, HZ.out, HLn.out⟩
        case measure => simp [intOf]; omega
      · have ek : (g i).kind = 3 := hc
        have hSt : Hid (runS g (i + 1) = stepS ⟨3, (g i).r, (g i).bits⟩ (runS g i)) := by
          have e : runS g (i + 1) = stepS (g i) (runS g i) := rfl
          unfold Hid; rw [e, ← ek]
        rw [ek] at ca0
        have HG : Hid (∀ N' m', grow 3 m K N' m' → L (i + 1) N' m') := fun N' m' q => HL.out.s i m K N' m' hlt hLi.out (by rw [ek]; exact q)
        have cb0 : wr.cell? ⟨G, o + i * 8, none⟩ = some (.int .i64 3) := ca0
        clear ek hc ca0
        go_wp2_with (first | (go_at_call 19; (with_reducible refine (k19 (g i).r.1 (g i).bits oa obt.out _).mono ?_); rintro e w' ⟨rfl, dd, oo, rfl⟩))
        refine (c21 _ m h (by omega) (pfR (g i).r.1 (g i).bits) (pfR_ok _ _ oa obt.out) _ (Rd.chg0 HX.out.rl (by (repeat (with_reducible first | exact Chg.refl _ _ | exact HC1.out | refine Chg.plus ?_ _ _ | refine Chg.alloc ?_ _ | refine Chg.drew ?_)))) HX.out.cl).mono ?_
        rintro e w2 ⟨v, m2, h2, rfl, Z⟩
        obtain ⟨p2, c2, rfl, _⟩ : ∃ p c, v = .slice p m2 c ∧ m2 ≤ c := by obtain ⟨p, c, e, l, _⟩ := (ResQ.re Z.out).2.1; exact ⟨p, c, e, l⟩
        have hl2 := (ResQ.re Z.out).2.2.2.2
        have HZ : Hid (SpR w w2 (.slice p2 m2 c2) (.slice p1 K c1) m2 K h2 hk (runS g (i + 1)).1 (runS g (i + 1)).2) := SpR.upd HX.out (by (repeat (with_reducible first | exact Chg.refl _ _ | exact HC1.out | refine Chg.plus ?_ _ _ | refine Chg.alloc ?_ _ | refine Chg.drew ?_))) (ResQ.re Z.out) (fun k => by
          rw [hSt.out]
          show (MemR m h k ∧ _) ↔ ((runS g i).1 k ∧ _); rw [HX.out.ml k]) (fun k => by rw [hSt.out]; exact Iff.rfl)
        have HLn : Hid (L (i + 1) m2 K) := HG.out _ _ (by unfold grow; omega)
        clear Z cb0 ca1 ca2 ca3 ca4 ca5 ca6 ca7
        go_wp2_with fail
        go_roundw
        case rel => exact ⟨i + 1, m2, K, p2, p1, c2, c1, h2, hk, by go_num, rfl, rfl, by omega, HZ.out, HLn.out⟩
        case measure => simp [intOf]; omega
      · have ek : (g i).kind = 4 := hc
        have hSt : Hid (runS g (i + 1) = stepS ⟨4, (g i).r, (g i).bits⟩ (runS g i)) := by
          have e : runS g (i + 1) = stepS (g i) (runS g i) := rfl
          unfold Hid; rw [e, ← ek]
        rw [ek] at ca0
        have HG : Hid (∀ N' m', grow 4 m K N' m' → L (i + 1) N' m') := fun N' m' q => HL.out.s i m K N' m' hlt hLi.out (by rw [ek]; exact q)
        have cb0 : wr.cell? ⟨G, o + i * 8, none⟩ = some (.int .i64 4) := ca0
        clear ek hc ca0
        go_wp2_with fail
        refine (c36 _ m h (by omega) ((g i).r.1, (g i).r.1) (okR_one oa) _ (Rd.chg0 HX.out.rl (by (repeat (with_reducible first | exact Chg.refl _ _ | exact HC1.out | refine Chg.plus ?_ _ _ | refine Chg.alloc ?_ _ | refine Chg.drew ?_)))) HX.out.cl).mono ?_
        rintro e w2 ⟨v, m2, h2, rfl, Z⟩
        obtain ⟨p2, c2, rfl, _⟩ : ∃ p c, v = .slice p m2 c ∧ m2 ≤ c := by obtain ⟨p, c, e, l, _⟩ := (ResQ.re Z.out).2.1; exact ⟨p, c, e, l⟩
        have hl2 := (ResQ.re Z.out).2.2.2.2
        have HZ : Hid (SpR w w2 (.slice p2 m2 c2) (.slice p1 K c1) m2 K h2 hk (runS g (i + 1)).1 (runS g (i + 1)).2) := SpR.upd HX.out (by (repeat (with_reducible first | exact Chg.refl _ _ | exact HC1.out | refine Chg.plus ?_ _ _ | refine Chg.alloc ?_ _ | refine Chg.drew ?_))) (ResQ.re Z.out) (fun k => by
          rw [hSt.out]
          show (MemR m h k ∨ _) ↔ ((runS g i).1 k ∨ _); rw [HX.out.ml k]) (fun k => by rw [hSt.out]; exact Iff.rfl)
        have HLn : Hid (L (i + 1) m2 K) := HG.out _ _ (by unfold grow; omega)
        clear Z cb0 ca1 ca2 ca3 ca4 ca5 ca6 ca7
        go_wp2_with fail
        go_roundw
        case rel => exact ⟨i + 1, m2, K, p2, p1, c2, c1, h2, hk, by go_num, rfl, rfl, by omega, HZ.out, HLn.out⟩
        case measure => simp [intOf]; omega
      · have ek : (g i).kind = 5 := hc
        have hSt : Hid (runS g (i + 1) = stepS ⟨5, (g i).r, (g i).bits⟩ (runS g i)) := by
          have e : runS g (i + 1) = stepS (g i) (runS g i) := rfl
          unfold Hid; rw [e, ← ek]
        rw [ek] at ca0
        have HG : Hid (∀ N' m', grow 5 m K N' m' → L (i + 1) N' m') := fun N' m' q => HL.out.s i m K N' m' hlt hLi.out (by rw [ek]; exact q)
        have cb0 : wr.cell? ⟨G, o + i * 8, none⟩ = some (.int .i64 5) := ca0
        clear ek hc ca0
        go_wp2_with fail
        refine (c21 _ m h (by omega) ((g i).r.1, (g i).r.1) (okR_one oa) _ (Rd.chg0 HX.out.rl (by (repeat (with_reducible first | exact Chg.refl _ _ | exact HC1.out | refine Chg.plus ?_ _ _ | refine Chg.alloc ?_ _ | refine Chg.drew ?_)))) HX.out.cl).mono ?_
        rintro e w2 ⟨v, m2, h2, rfl, Z⟩
        obtain ⟨p2, c2, rfl, _⟩ : ∃ p c, v = .slice p m2 c ∧ m2 ≤ c := by obtain ⟨p, c, e, l, _⟩ := (ResQ.re Z.out).2.1; exact ⟨p, c, e, l⟩
        have hl2 := (ResQ.re Z.out).2.2.2.2
        have HZ : Hid (SpR w w2 (.slice p2 m2 c2) (.slice p1 K c1) m2 K h2 hk (runS g (i + 1)).1 (runS g (i + 1)).2) := SpR.upd HX.out (by (repeat (with_reducible first | exact Chg.refl _ _ | exact HC1.out | refine Chg.plus ?_ _ _ | refine Chg.alloc ?_ _ | refine Chg.drew ?_))) (ResQ.re Z.out) (fun k => by
          rw [hSt.out]
          show (MemR m h k ∧ _) ↔ ((runS g i).1 k ∧ _); rw [HX.out.ml k]) (fun k => by rw [hSt.out]; exact Iff.rfl)
        have HLn : Hid (L (i + 1) m2 K) := HG.out _ _ (by unfold grow; omega)
        clear Z cb0 ca1 ca2 ca3 ca4 ca5 ca6 ca7
        go_wp2_with fail
        go_roundw
        case rel => exact ⟨i + 1, m2, K, p2, p1, c2, c1, h2, hk, by go_num, rfl, rfl, by omega, HZ.out, HLn.out⟩
        case measure => simp [intOf]; omega
      · have ek : (g i).kind = 6 := hc
        have hSt : Hid (runS g (i + 1) = stepS ⟨6, (g i).r, (g i).bits⟩ (runS g i)) := by
          have e : runS g (i + 1) = stepS (g i) (runS g i) := rfl
          unfold Hid; rw [e, ← ek]
        rw [ek] at ca0
        have HG : Hid (∀ N' m', grow 6 m K N' m' → L (i + 1) N' m') := fun N' m' q => HL.out.s i m K N' m' hlt hLi.out (by rw [ek]; exact q)
        have cb0 : wr.cell? ⟨G, o + i * 8, none⟩ = some (.int .i64 6) := ca0
        clear ek hc ca0
        go_wp2_with fail
        refine (c38 _).mono ?_
        rintro e w1 ⟨v1, rfl, Z1⟩
        obtain ⟨pa, ka, rfl, _⟩ := Z1.out.2.1.form
        have HC1 : Hid (Chg (fun _ => False) wr w1) := Chg.trans (by (repeat (with_reducible first | exact Chg.refl _ _ | refine Chg.plus ?_ _ _ | refine Chg.alloc ?_ _ | refine Chg.drew ?_))) Z1.out.1
        go_wp2_with fail
        refine (c37 _ 2 allF _ m h (by omega) _ (Z1.out.2.1.rd.chg0 (by (repeat (with_reducible first | exact Chg.refl _ _ | refine Chg.plus ?_ _ _ | refine Chg.alloc ?_ _ | refine Chg.drew ?_)))) CanonR_all (Rd.chg0 HX.out.rl (by (repeat (with_reducible first | exact Chg.refl _ _ | exact HC1.out | refine Chg.plus ?_ _ _ | refine Chg.alloc ?_ _ | refine Chg.drew ?_)))) (fun i hi => HX.out.cl.ok i hi)).mono ?_
        rintro e w2 ⟨v, m2, h2, rfl, Z⟩
        clear Z1
        obtain ⟨p2, c2, rfl, _⟩ : ∃ p c, v = .slice p m2 c ∧ m2 ≤ c := by obtain ⟨p, c, e, l, _⟩ := (Z.out).2.1; exact ⟨p, c, e, l⟩
        have hl2 := (Z.out).2.2.2.2
        have HZ : Hid (SpR w w2 (.slice p2 m2 c2) (.slice p1 K c1) m2 K h2 hk (runS g (i + 1)).1 (runS g (i + 1)).2) := SpR.upd HX.out (by (repeat (with_reducible first | exact Chg.refl _ _ | exact HC1.out | refine Chg.plus ?_ _ _ | refine Chg.alloc ?_ _ | refine Chg.drew ?_))) (Z.out) (fun k => by
          rw [hSt.out]
          show (MemR 2 allF k ∧ ¬ MemR m h k) ↔ (okK k ∧ ¬ (runS g i).1 k); rw [HX.out.ml k, MemR_all]) (fun k => by rw [hSt.out]; exact Iff.rfl)
        have HLn : Hid (L (i + 1) m2 K) := HG.out _ _ (by unfold grow; omega)
        clear Z cb0 ca1 ca2 ca3 ca4 ca5 ca6 ca7
        go_wp2_with fail
        go_roundw
        case rel => exact ⟨i + 1, m2, K, p2, p1, c2, c1, h2, hk, by go_num, rfl, rfl, by omega, HZ.out, HLn.out⟩
        case measure => simp [intOf]; omega
      · have ek : (g i).kind = 7 := hc
        have hSt : Hid (runS g (i + 1) = stepS ⟨7, (g i).r, (g i).bits⟩ (runS g i)) := by
          have e : runS g (i + 1) = stepS (g i) (runS g i) := rfl
          unfold Hid; rw [e, ← ek]
        rw [ek] at ca0
        have HG : Hid (∀ N' m', grow 7 m K N' m' → L (i + 1) N' m') := fun N' m' q => HL.out.s i m K N' m' hlt hLi.out (by rw [ek]; exact q)
        have cb0 : wr.cell? ⟨G, o + i * 8, none⟩ = some (.int .i64 7) := ca0
        clear ek hc ca0
        go_wp2_with (at_builtin; refine appD rfl (.tmp 78) (.tmp 79) 25 48 infoQ under25 (by omega) rfl _ 0 h rfl (OwnDV.newAt #[] 0 h (by simp) rfl (by omega)) m h ?hr ?sz ?_)
        case hr => exact Rd.chg0 HX.out.rl (by (repeat (with_reducible first | exact Chg.refl _ _ | refine Chg.plus ?_ _ _ | refine Chg.alloc ?_ _ | refine Chg.drew ?_)))
        case sz => omega
        intro p' c' w2 hO hC hat
        have HC1 : Hid (Chg (fun _ => False) wr w2) := Chg.app (by (repeat (with_reducible first | exact Chg.refl _ _ | refine Chg.plus ?_ _ _ | refine Chg.alloc ?_ _ | refine Chg.drew ?_))) hC (fun k e => by simp only [Value.ownBlock, Option.some.injEq] at e; omega)
        have HO : Hid (OwnDV layQ 40 w2 (.slice p' m c') m h) := by
          have := hO.out
          first | rwa [Nat.zero_add, appF_zero] at this | rwa [appF_zero] at this
        have HZ : Hid (SpR w w2 (.slice p0 m c0) (.slice p' m c') m m h h (runS g (i + 1)).1 (runS g (i + 1)).2) := SpR.keep HX.out HC1.out HO.out.rd (fun k => by rw [hSt.out]; exact Iff.rfl) (fun k => by rw [hSt.out]; exact Iff.rfl)
        have HLn : Hid (L (i + 1) m m) := HG.out _ _ (by unfold grow; omega)
        clear hO hC hat cb0 ca1 ca2 ca3 ca4 ca5 ca6 ca7
        go_wp2_with fail
        go_roundw
        case rel => exact ⟨i + 1, m, m, p0, p', c0, c', h, h, by go_num, rfl, rfl, by omega, HZ.out, HLn.out⟩
        case measure => simp [intOf]; omega
      · have ek : (g i).kind = 8 := hc
        have hSt : Hid (runS g (i + 1) = stepS ⟨8, (g i).r, (g i).bits⟩ (runS g i)) := by
          have e : runS g (i + 1) = stepS (g i) (runS g i) := rfl
          unfold Hid; rw [e, ← ek]
        rw [ek] at ca0
        have HG : Hid (∀ N' m', grow 8 m K N' m' → L (i + 1) N' m') := fun N' m' q => HL.out.s i m K N' m' hlt hLi.out (by rw [ek]; exact q)
        have cb0 : wr.cell? ⟨G, o + i * 8, none⟩ = some (.int .i64 8) := ca0
        clear ek hc ca0
        go_wp2_with fail
        obtain ⟨wo, rfl⟩ : ∃ wo : World, wo = wr := ⟨_, rfl⟩
        go_loopw [4, 85] (fun t4 t85 wr => ∃ (j m2 : Nat) (p2 : Option Addr) (c2 : Nat) (h2 : Nat → Nat × Nat), t85 = .int .i64 j ∧ t4 = .slice p2 m2 c2 ∧ j ≤ K ∧ Hid (ReQ wo wr (.slice p2 m2 c2) m2 h2 (fun k => MemR m h k ∨ MemR j hk k) (m + j)))
          (fun _ t85 _ => K - (intOf t85).toNat)
        case atStart => exact ⟨0, m, p0, c0, h, rfl, rfl, Nat.zero_le _, by (repeat (with_reducible first | exact Chg.refl _ _ | refine Chg.plus ?_ _ _ | refine Chg.alloc ?_ _ | refine Chg.drew ?_)), Rd.chg0 HX.out.rl (by (repeat (with_reducible first | exact Chg.refl _ _ | refine Chg.plus ?_ _ _ | refine Chg.alloc ?_ _ | refine Chg.drew ?_))), HX.out.cl, fun k => by simp [MemR_zero], Nat.le_refl _⟩
        case round =>
          clear cb0 ca1 ca2 ca3 ca4 ca5 ca6 ca7 hG
          obtain ⟨j, m2, p2, c2, h2, rfl, rfl, hj, Y⟩ := hrel
          have hm2 : m2 ≤ m + j := Y.out.2.2.2.2
          by_cases hlj : j < K
          · have rk := HX.out.rk
            obtain ⟨q1, q2, eq, ql, hrk⟩ := rk
            obtain ⟨G2, o2, rfl, hrow2⟩ := hrk (by omega)
            simp only [Value.slice.injEq, true_and] at eq
            obtain ⟨rfl, rfl⟩ := eq
            have r2 : wr.rangeAt G2 (o2 + j * 6) (rqL (hk j)) := rangeAt_chg Y.out.1 (hrow2 j hlj) id
            obtain ⟨cc0, cc1, cc2, cc3, cc4, cc5⟩ := rq_cells r2
            have hG2 : G2 < wr.heap.size := World.block_lt_of_cell? _ _ cc0
            clear hrow2 r2 hrk
            go_wp2_with fail
            refine (c36 _ m2 h2 (by omega) (hk j) (HX.out.ck.ok j hlj) _ (Rd.chg0 Y.out.2.1 (by (repeat (with_reducible first | exact Chg.refl _ _ | refine Chg.plus ?_ _ _ | refine Chg.alloc ?_ _ | refine Chg.drew ?_)))) Y.out.2.2.1).mono ?_
            rintro e w2 ⟨v, m3, h3, rfl, Z⟩
            obtain ⟨p3, c3, rfl, _⟩ := Z.out.2.1.form
            have HZ : Hid (ReQ wo w2 (.slice p3 m3 c3) m3 h3 (fun k => MemR m h k ∨ MemR (j + 1) hk k) (m + (j + 1))) := by
              obtain ⟨z1, z2, z3, z4, z5⟩ := ResQ.re Z.out
              refine ⟨Chg.trans (Chg.trans Y.out.1 (by (repeat (with_reducible first | exact Chg.refl _ _ | refine Chg.plus ?_ _ _ | refine Chg.alloc ?_ _ | refine Chg.drew ?_)))) z1, z2, z3, fun k => ?_, by omega⟩
              refine (z4 k).trans ?_
              show (MemR m2 h2 k ∨ _) ↔ (MemR m h k ∨ MemR (j + 1) hk k)
              have e : MemR m2 h2 k ↔ (MemR m h k ∨ MemR j hk k) := Y.out.2.2.2.1 k
              rw [e, MemR_succ, or_assoc]
            clear Z cc0 cc1 cc2 cc3 cc4 cc5
            go_wp2_with fail
            go_roundw
            case rel => exact ⟨j + 1, m3, p3, c3, h3, by go_num, rfl, by omega, HZ.out⟩
            case measure => simp [intOf]; omega
          · obtain rfl : j = K := by omega
            have HZ : Hid (SpR w wr (.slice p2 m2 c2) (.slice p1 j c1) m2 j h2 hk (runS g (i + 1)).1 (runS g (i + 1)).2) := SpR.upd HX.out (.refl _ _) Y.out (fun k => by
              rw [hSt.out]
              show (MemR m h k ∨ MemR j hk k) ↔ ((runS g i).1 k ∨ (runS g i).2 k); rw [HX.out.ml k, HX.out.mkk k]) (fun k => by rw [hSt.out]; exact Iff.rfl)
            have HLn : Hid (L (i + 1) m2 j) := HG.out _ _ (by unfold grow; omega)
            clear Y
            go_wp2_with fail
            go_roundw
            case rel => exact ⟨i + 1, m2, j, p2, p1, c2, c1, h2, hk, by go_num, rfl, rfl, by omega, HZ.out, HLn.out⟩
            case measure => simp [intOf]; omega
      · have ek : (g i).kind = 9 := hc
        have hSt : Hid (runS g (i + 1) = stepS ⟨9, (g i).r, (g i).bits⟩ (runS g i)) := by
          have e : runS g (i + 1) = stepS (g i) (runS g i) := rfl
          unfold Hid; rw [e, ← ek]
        rw [ek] at ca0
        have HG : Hid (∀ N' m', grow 9 m K N' m' → L (i + 1) N' m') := fun N' m' q => HL.out.s i m K N' m' hlt hLi.out (by rw [ek]; exact q)
        have cb0 : wr.cell? ⟨G, o + i * 8, none⟩ = some (.int .i64 9) := ca0
        clear ek hc ca0
        go_wp2_with fail
        refine (c37 _ m h _ K hk (by omega) _ (Rd.chg0 HX.out.rl (by (repeat (with_reducible first | exact Chg.refl _ _ | exact HC1.out | refine Chg.plus ?_ _ _ | refine Chg.alloc ?_ _ | refine Chg.drew ?_)))) HX.out.cl (Rd.chg0 HX.out.rk (by (repeat (with_reducible first | exact Chg.refl _ _ | exact HC1.out | refine Chg.plus ?_ _ _ | refine Chg.alloc ?_ _ | refine Chg.drew ?_)))) (fun i hi => HX.out.ck.ok i hi)).mono ?_
        rintro e w2 ⟨v, m2, h2, rfl, Z⟩
        obtain ⟨p2, c2, rfl, _⟩ : ∃ p c, v = .slice p m2 c ∧ m2 ≤ c := by obtain ⟨p, c, e, l, _⟩ := (Z.out).2.1; exact ⟨p, c, e, l⟩
        have hl2 := (Z.out).2.2.2.2
        have HZ : Hid (SpR w w2 (.slice p2 m2 c2) (.slice p1 K c1) m2 K h2 hk (runS g (i + 1)).1 (runS g (i + 1)).2) := SpR.upd HX.out (by (repeat (with_reducible first | exact Chg.refl _ _ | exact HC1.out | refine Chg.plus ?_ _ _ | refine Chg.alloc ?_ _ | refine Chg.drew ?_))) (Z.out) (fun k => by
          rw [hSt.out]
          show (MemR m h k ∧ ¬ MemR K hk k) ↔ ((runS g i).1 k ∧ ¬ (runS g i).2 k); rw [HX.out.ml k, HX.out.mkk k]) (fun k => by rw [hSt.out]; exact Iff.rfl)
        have HLn : Hid (L (i + 1) m2 K) := HG.out _ _ (by unfold grow; omega)
        clear Z cb0 ca1 ca2 ca3 ca4 ca5 ca6 ca7
        go_wp2_with fail
        go_roundw
        case rel => exact ⟨i + 1, m2, K, p2, p1, c2, c1, h2, hk, by go_num, rfl, rfl, by omega, HZ.out, HLn.out⟩
        case measure => simp [intOf]; omega
      · have ek : (g i).kind = 10 := hc
        have hSt : Hid (runS g (i + 1) = stepS ⟨10, (g i).r, (g i).bits⟩ (runS g i)) := by
          have e : runS g (i + 1) = stepS (g i) (runS g i) := rfl
          unfold Hid; rw [e, ← ek]
        rw [ek] at ca0
        have HG : Hid (∀ N' m', grow 10 m K N' m' → L (i + 1) N' m') := fun N' m' q => HL.out.s i m K N' m' hlt hLi.out (by rw [ek]; exact q)
        have cb0 : wr.cell? ⟨G, o + i * 8, none⟩ = some (.int .i64 10) := ca0
        clear ek hc ca0
        go_wp2_with fail
        refine (c38 _).mono ?_
        rintro e w1 ⟨v1, rfl, Z1⟩
        obtain ⟨pa, ka, rfl, _⟩ := Z1.out.2.1.form
        have HC0 : Hid (Chg (fun _ => False) wr w1) := Chg.trans (by (repeat (with_reducible first | exact Chg.refl _ _ | refine Chg.plus ?_ _ _ | refine Chg.alloc ?_ _ | refine Chg.drew ?_))) Z1.out.1
        go_wp2_with fail
        refine (c37 _ 2 allF _ K hk (by omega) _ (Z1.out.2.1.rd.chg0 (by (repeat (with_reducible first | exact Chg.refl _ _ | refine Chg.plus ?_ _ _ | refine Chg.alloc ?_ _ | refine Chg.drew ?_)))) CanonR_all (Rd.chg0 HX.out.rk (by (repeat (with_reducible first | exact Chg.refl _ _ | exact HC0.out | refine Chg.plus ?_ _ _ | refine Chg.alloc ?_ _ | refine Chg.drew ?_)))) (fun i hi => HX.out.ck.ok i hi)).mono ?_
        rintro e w3 ⟨v3, m3, h3, rfl, Z3⟩
        obtain ⟨pb, kb, rfl, _⟩ : ∃ p c, v3 = .slice p m3 c ∧ m3 ≤ c := by obtain ⟨p, c, e, l, _⟩ := Z3.out.2.1; exact ⟨p, c, e, l⟩
        have HC1 : Hid (Chg (fun _ => False) wr w3) := Chg.trans (by (repeat (with_reducible first | exact Chg.refl _ _ | exact HC0.out | refine Chg.plus ?_ _ _ | refine Chg.alloc ?_ _ | refine Chg.drew ?_))) Z3.out.1
        have hl3 := Z3.out.2.2.2.2
        clear Z1
        go_wp2_with fail
        refine (c37 _ m h _ m3 h3 (by omega) _ (Rd.chg0 HX.out.rl (by (repeat (with_reducible first | exact Chg.refl _ _ | exact HC1.out | refine Chg.plus ?_ _ _ | refine Chg.alloc ?_ _ | refine Chg.drew ?_)))) HX.out.cl (Rd.chg0 Z3.out.2.1 (by (repeat (with_reducible first | exact Chg.refl _ _ | refine Chg.plus ?_ _ _ | refine Chg.alloc ?_ _ | refine Chg.drew ?_)))) (fun i hi => Z3.out.2.2.1.ok i hi)).mono ?_
        rintro e w2 ⟨v, m2, h2, rfl, Z⟩
        obtain ⟨p2, c2, rfl, _⟩ : ∃ p c, v = .slice p m2 c ∧ m2 ≤ c := by obtain ⟨p, c, e, l, _⟩ := (Z.out).2.1; exact ⟨p, c, e, l⟩
        have hl2 := (Z.out).2.2.2.2
        have HZ : Hid (SpR w w2 (.slice p2 m2 c2) (.slice p1 K c1) m2 K h2 hk (runS g (i + 1)).1 (runS g (i + 1)).2) := SpR.upd HX.out (by (repeat (with_reducible first | exact Chg.refl _ _ | exact HC1.out | refine Chg.plus ?_ _ _ | refine Chg.alloc ?_ _ | refine Chg.drew ?_))) (Z.out) (fun k => by
          rw [hSt.out]
          show (MemR m h k ∧ ¬ MemR m3 h3 k) ↔ ((runS g i).1 k ∧ ¬ (okK k ∧ ¬ (runS g i).2 k)); have e3 : MemR m3 h3 k ↔ (MemR 2 allF k ∧ ¬ MemR K hk k) := Z3.out.2.2.2.1 k; rw [e3, MemR_all, HX.out.ml k, HX.out.mkk k]) (fun k => by rw [hSt.out]; exact Iff.rfl)
        have HLn : Hid (L (i + 1) m2 K) := HG.out _ _ (by unfold grow; omega)
        clear Z cb0 ca1 ca2 ca3 ca4 ca5 ca6 ca7
        go_wp2_with fail
        go_roundw
        case rel => exact ⟨i + 1, m2, K, p2, p1, c2, c1, h2, hk, by go_num, rfl, rfl, by omega, HZ.out, HLn.out⟩
        case measure => simp [intOf]; omega

    · obtain rfl : i = n := by omega
      go_wp2_with fail
      go_ret2
      exact ⟨_, _, m, K, _, _, h, hk, rfl, HX.out, by omega, by omega⟩
end Go.Proofs.YtmoabfpdlbngeaaGreatDoor
end
