/-
  Part of the proofs on the laws of pub-addresssets: joined texts (N3).
-/
import Derived.Test.YtmoabfpdlbngeaaGreatDoorVN1
import Derived.Deep.AppendLies
section
namespace Go.Proofs.YtmoabfpdlbngeaaGreatDoor
open Go.RowKit
set_option maxHeartbeats 400000
set_option linter.unusedVariables false
set_option linter.unusedSimpArgs false
def valR (n : Nat) (f : Nat → Nat × Nat) : Prop := ∀ i, i < n → okR (f i)
theorem c159u (v : Value) (n : Nat) (f0 : Nat → Nat × Nat) (hn : n ≤ 100000000) (w : World) (ho : OwnV w v n f0) (hok : valR n f0) :
    Calls Tryz.prog 159 #[v] w fun e w' => ∃ (p : Option Addr) (m cap G : Nat) (h : Nat → Nat × Nat), e = .returned (.tuple #[.slice p m cap, .bool true]) ∧ Hid (Chg (fun k => v.ownBlock = some k) w w' ∧ (0 < m → p = some ⟨G, 0, none⟩ ∧ w.heap.size ≤ G ∧ OwnR w' G m cap h) ∧ CanonR m h ∧ (∀ k, MemR m h k ↔ MemR n f0 k) ∧ m ≤ n) := by
  have z : ∀ (p : Option Addr) (c : Nat), n = 0 → Calls Tryz.prog 159 #[.slice p 0 c] w fun e w' => ∃ (p : Option Addr) (m cap G : Nat) (h : Nat → Nat × Nat), e = .returned (.tuple #[.slice p m cap, .bool true]) ∧ Hid (Chg (fun k => v.ownBlock = some k) w w' ∧ (0 < m → p = some ⟨G, 0, none⟩ ∧ w.heap.size ≤ G ∧ OwnR w' G m cap h) ∧ CanonR m h ∧ (∀ k, MemR m h k ↔ MemR n f0 k) ∧ m ≤ n) := fun p c hn0 => by
    refine (c159_0 p c w).mono ?_
    rintro e w' ⟨rfl, P⟩
    exact ⟨none, 0, 0, 0, f0, rfl, .of_plus P, fun q => by omega, ⟨fun i hi => by omega, fun i hi => by omega⟩, fun k => by rw [hn0], Nat.zero_le _⟩
  rcases ho with ⟨rfl, h0⟩ | ⟨G, cap, rfl, H⟩
  · exact z none 0 h0
  · by_cases h0 : n = 0
    · subst h0; exact z _ _ rfl
    · refine (c159 G 0 n cap f0 (by omega) hn H.le w H.cellsAt hok).mono ?_
      rintro e w' ⟨G', m, cap', h, rfl, C, l, O, K, M, p, q⟩
      exact ⟨_, m, cap', G', h, rfl, C.mono (fun k _ e => by subst e; rfl), fun _ => ⟨rfl, l, O⟩, K, M, q⟩
/-- A builder: what is to come in, what is to go out; no errors. -/
structure Bld (w : World) (B : Nat) (vi vo : Value) (n : Nat) (f : Nat → Nat × Nat) (n' : Nat) (f' : Nat → Nat × Nat) : Prop where
  blk : w.heap[B]? = some (.cells #[vi, vo, .slice none 0 0] 129 (0, 0))
  i : OwnV w vi n f
  o : OwnV w vo n' f'
  oki : valR n f
  oko : valR n' f'
  ne : ∀ k, vi.ownBlock = some k → vo.ownBlock ≠ some k
theorem OwnV.ty {w : World} {v : Value} {n : Nat} {f : Nat → Nat × Nat} (H : OwnV w v n f) {k : Nat} (e : v.ownBlock = some k) : ∃ cur, w.heap[k]? = some (.cells cur 80 (0, 0)) := by
  rcases H with ⟨rfl, _⟩ | ⟨G, cap, rfl, H⟩
  · simp [Value.ownBlock] at e
  · simp only [Value.ownBlock, Option.some.injEq] at e
    subst e
    obtain ⟨cur, h, _⟩ := H.blk
    exact ⟨cur, h⟩
theorem OwnV.lt {w : World} {v : Value} {n : Nat} {f : Nat → Nat × Nat} (H : OwnV w v n f) {k : Nat} (e : v.ownBlock = some k) : k < w.heap.size := by
  obtain ⟨cur, h⟩ := H.ty e
  exact (Array.getElem?_eq_some_iff.1 h).1
theorem OwnV.chg {F : Nat → Prop} {w w' : World} {v : Value} {n : Nat} {f : Nat → Nat × Nat} (H : OwnV w v n f) (hc : Chg F w w') (hF : ∀ k, v.ownBlock = some k → ¬ F k) : OwnV w' v n f := by
  rcases H with ⟨rfl, h⟩ | ⟨G, cap, rfl, H⟩
  · exact .inl ⟨rfl, h⟩
  · exact .inr ⟨G, cap, rfl, H.chg hc (hF G rfl)⟩
theorem Bld.notB {w : World} {B : Nat} {vi vo : Value} {n : Nat} {f : Nat → Nat × Nat} {n' : Nat} {f' : Nat → Nat × Nat} (H : Bld w B vi vo n f n' f') : vi.ownBlock ≠ some B ∧ vo.ownBlock ≠ some B := by
  constructor
  · intro e
    obtain ⟨cur, h⟩ := H.i.ty e
    rw [H.blk] at h
    simp at h
  · intro e
    obtain ⟨cur, h⟩ := H.o.ty e
    rw [H.blk] at h
    simp at h
theorem blkB {w : World} {B : Nat} {vi vo ve : Value} (h : w.heap[B]? = some (.cells #[vi, vo, ve] 129 (0, 0))) : w.cell? ⟨B, 0, none⟩ = some vi ∧ w.cell? ⟨B, 1, none⟩ = some vo ∧ w.cell? ⟨B, 2, none⟩ = some ve ∧ w.frozen? ⟨B, 0, none⟩ = false ∧ w.frozen? ⟨B, 1, none⟩ = false ∧ w.frozen? ⟨B, 2, none⟩ = false := by
  refine ⟨?_, ?_, ?_, ?_, ?_, ?_⟩
  · rw [cell_of_row w B 0 _ 129 (0, 0) h]; rfl
  · rw [cell_of_row w B 1 _ 129 (0, 0) h]; rfl
  · rw [cell_of_row w B 2 _ 129 (0, 0) h]; rfl
  · unfold World.frozen?; simp [h]
  · unfold World.frozen?; simp [h]
  · unfold World.frozen?; simp [h]
def AtV (v : Value) (k : Nat) : Prop := v.ownBlock = some k
theorem step_app80 {ops : Array Oper} {o : Oper} {a : Act} {w : World} {K : Act → World → Prop} {Q : Exit → Act → World → Prop} {E : Prop} (hgd : o.guard = none) (s x : Operand)
    (ho : o.op = .call { callee := .builtin .append, args := #[s, x], argTypes := #[71, 71] })
    (v : Value) (m : Nat) (h : Nat → Nat × Nat) (hs : a.eval s = v) (hown : OwnV w v m h) (g off k c : Nat) (f : Nat → Nat × Nat) (hx : a.eval x = .slice (some ⟨g, off, none⟩) k c)
    (hr : ∀ i, i < k → w.rangeAt g (off + i * 10) (rcL (f i))) (hsz : 0 < k ∧ m + k ≤ 1000000000)
    (H : ∀ v' w', Hid (OwnV w' v' (m + k) (fun j => if j < m then h j else f (j - m))) → Chg (AtV v) w w' → Hid (v'.ownBlock = v.ownBlock ∨ v'.ownBlock = some w.heap.size) → K (a.put o.dst v') w') :
    if Region.wanted o (yielded ops a.tmps) = true then Oper.wp Tryz.prog o a w K Q else E := by
  obtain ⟨i, z, hi, hz, h1, h2, h3⟩ := info80
  refine step_append_lies w hgd s x 71 ho 0 80 i z 10 80 under71 hi hz h1 h2 h3 (by omega) v m (cellsL m h) hs hown.owns ⟨g, off, none⟩ k c (cellsL k f) hx (cellsL_len k f) (cellsL_one hr) (cellsL_cell k f) hsz.1 (by unfold maxLen; omega) (by omega) (Nat.zero_le _) _ rfl ?_
  intro G cap w' ho' hg hat _
  rw [cellsL_append] at ho'
  refine H _ w' (.of ho') ((Chg.refl _ w).grown hg (fun k e _ => e)) ?_
  show _ ∨ _
  rcases hat with e | e
  · exact .inl (by rw [e]; rfl)
  · exact .inr (by rw [← e]; rfl)
theorem bld_fin {w W : World} {B : Nat} {vi vo : Value} {n : Nat} {f : Nat → Nat × Nat} {n' : Nat} {f' : Nat → Nat × Nat} (H : Bld w B vi vo n f n' f') (C : Chg (fun k => vi.ownBlock = some k ∨ vo.ownBlock = some k) w W)
    (v : Value) (m : Nat) (h : Nat → Nat × Nat) (hv : OwnV W v m h) (hfr : ∀ k, v.ownBlock = some k → w.heap.size ≤ k) (K : CanonR m h) (M : ∀ k, MemR m h k ↔ MemR n f k ∧ ¬ MemR n' f' k) (l : m ≤ n + n') :
    Chg (fun k => k = B ∨ vi.ownBlock = some k ∨ vo.ownBlock = some k) w ((W.setCell ⟨B, 0, none⟩ v).setCell ⟨B, 1, none⟩ (.slice none 0 0)) ∧ Bld ((W.setCell ⟨B, 0, none⟩ v).setCell ⟨B, 1, none⟩ (.slice none 0 0)) B v (.slice none 0 0) m h 0 h ∧ (∀ k, v.ownBlock = some k → w.heap.size ≤ k) ∧ CanonR m h ∧ (∀ k, MemR m h k ↔ MemR n f k ∧ ¬ MemR n' f' k) ∧ m ≤ n + n' := by
  have hBlt : B < w.heap.size := (Array.getElem?_eq_some_iff.1 H.blk).1
  have hB : W.heap[B]? = some (.cells #[vi, vo, .slice none 0 0] 129 (0, 0)) := (C.block B hBlt (fun q => q.elim H.notB.1 H.notB.2)).trans H.blk
  have C2 : Chg (fun k => k = B) W ((W.setCell ⟨B, 0, none⟩ v).setCell ⟨B, 1, none⟩ (.slice none 0 0)) := ((Chg.refl (fun k => k = B) W).setCell ⟨B, 0, none⟩ v (fun _ => rfl)).setCell ⟨B, 1, none⟩ _ (fun _ => rfl)
  refine ⟨(C.mono (fun k _ q => .inr q)).trans ⟨C2.os, C2.tape, C2.output, C2.size, fun k hk hn => C2.block k hk (fun e => hn (.inl e))⟩, ⟨?_, ?_, ?_, fun i hi => K.ok i hi, fun i hi => by omega, fun k e q => by simp [Value.ownBlock] at q⟩, hfr, K, M, l⟩
  · rw [setCell_eq_setRow W B 0 _ 129 (0, 0) v hB]
    rw [setCell_eq_setRow _ B 1 _ 129 (0, 0) _ (setRow_heap W B _ _ 129 (0, 0) hB)]
    rw [setRow_heap _ B _ _ 129 (0, 0) (setRow_heap W B _ _ 129 (0, 0) hB)]
    rfl
  · exact hv.chg C2 (fun k e q => by have := hfr k e; omega)
  · exact .inl ⟨rfl, rfl⟩
/-- A list on its way: the row from offset o of block G on; the block is one of the call's own. -/
def Limb (lo hi : Nat) (W : World) (G : Nat) (p : Option Addr) (a c o : Nat) (f : Nat → Nat × Nat) : Prop := 0 < a → p = some ⟨G, o, none⟩ ∧ a ≤ c ∧ lo ≤ G ∧ G < hi ∧ RowAt W G o a f
theorem Chg.over {F : Nat → Prop} {a b c : World} {g : Nat} (h : Chg F a b) (k : Chg (fun i => i = g) b c) (hg : a.heap.size ≤ g) : Chg F a c :=
  ⟨k.os.trans h.os, k.tape.trans h.tape, k.output.trans h.output, Nat.le_trans h.size k.size, fun i hi hF => (k.block i (Nat.lt_of_lt_of_le hi h.size) (by omega)).trans (h.block i hi hF)⟩
theorem Limb.chg {F : Nat → Prop} {lo hi : Nat} {W W' : World} {G : Nat} {p : Option Addr} {a c o : Nat} {f : Nat → Nat × Nat} (L : Limb lo hi W G p a c o f) (h : Chg F W W') (hF : lo ≤ G → G < hi → ¬ F G) : Limb lo hi W' G p a c o f := fun q => by
  obtain ⟨e1, e2, e3, e4, e5⟩ := L q
  exact ⟨e1, e2, e3, e4, e5.chg h (hF e3 e4)⟩
theorem Limb.tl {lo hi : Nat} {W : World} {G : Nat} {a c o : Nat} {f : Nat → Nat × Nat} (L : Limb lo hi W G (some ⟨G, o, none⟩) a c o f) : Limb lo hi W G (if c = 1 then some ⟨G, o, none⟩ else some ⟨G, o + 10, none⟩) (a - 1) (c - 1) (o + 10) (tl f) := fun q => by
  obtain ⟨e1, e2, e3, e4, e5⟩ := L (by omega)
  exact ⟨if_neg (by omega), by omega, e3, e4, e5.drop 1 (a - 1) (by omega)⟩
theorem Limb.set0 {lo hi : Nat} {W : World} {G : Nat} {p : Option Addr} {a c o : Nat} {f : Nat → Nat × Nat} (L : Limb lo hi W G p a c o f) (ha : 0 < a) (k : Nat) : Limb lo hi (W.setCells G o (adL k)) G p a c o (set0 f (k, (f 0).2)) := fun q => by
  obtain ⟨e1, e2, e3, e4, e5⟩ := L q
  refine ⟨e1, e2, e3, e4, ?_⟩
  have := e5.setFrom 0 ha k
  rwa [Nat.zero_mul, Nat.add_zero] at this
def lenOf : Value → Nat
  | .slice _ n _ => n
  | _ => 0
set_option maxHeartbeats 8000000 in
set_option maxRecDepth 4000 in
theorem c124 (B : Nat) (vi vo : Value) (n : Nat) (f : Nat → Nat × Nat) (n' : Nat) (f' : Nat → Nat × Nat) (hn : n ≤ 100000000) (hn' : n' ≤ 100000000) (w : World) (H : Bld w B vi vo n f n' f') :
    Calls Tryz.prog 124 #[.pointer (some ⟨B, 0, none⟩)] w fun e w' => e = .returned (.tuple #[]) ∧ ∃ (v : Value) (m : Nat) (h : Nat → Nat × Nat), Chg (fun k => k = B ∨ vi.ownBlock = some k ∨ vo.ownBlock = some k) w w' ∧ Bld w' B v (.slice none 0 0) m h 0 h ∧ (∀ k, v.ownBlock = some k → w.heap.size ≤ k) ∧ CanonR m h ∧ (∀ k, MemR m h k ↔ MemR n f k ∧ ¬ MemR n' f' k) ∧ m ≤ n + n' := by
  have HH : Hid _ := H
  obtain ⟨cB0, cB1, cB2, fB0, fB1, fB2⟩ := blkB H.blk
  have nB := H.notB
  have hBlt : B < w.heap.size := (Array.getElem?_eq_some_iff.1 H.blk).1
  clear H
  have NB1 : Hid _ := nB.1
  have NB2 : Hid _ := nB.2
  clear nB
  go_enter Tryz.func124, Tryz.ntmps124
  go_wp2_with fail
  refine (c159u vi n f hn w HH.out.i HH.out.oki).mono ?_
  rintro e w1 ⟨p1, a, c1, G1, h1, rfl, X1⟩
  have cC1 : w1.cell? ⟨B, 1, none⟩ = some vo := (World.cell?_of_block (X1.out.1.block B hBlt NB1.out)).trans cB1
  go_wp2_with fail
  have ho1 : OwnV w1 vo n' f' := HH.out.o.chg X1.out.1 (fun k e e2 => HH.out.ne k e2 e)
  refine (c159u vo n' f' hn' w1 ho1 HH.out.oko).mono ?_
  rintro e w2 ⟨p2, b, c2, G2, h2, rfl, X2⟩
  clear ho1
  go_wp2_with (first | (at_make; refine make80 rfl _ _ rfl 0 a rfl rfl ?_ ?_ ?_))
  · omega
  · have := X1.out.2.2.2.2; omega
  intro w3 P3 hlt3 hG
  have C3 : Hid (Chg (fun k => vi.ownBlock = some k ∨ vo.ownBlock = some k) w w3) := ((X1.out.1.mono (fun k _ e => .inl e)).trans (X2.out.1.mono (fun k _ e => .inr e))).trans (.of_plus P3)
  have s1 : w.heap.size ≤ w1.heap.size := X1.out.1.size
  have s2 : w1.heap.size ≤ w2.heap.size := X2.out.1.size
  have R1 : Hid (0 < a → p1 = some ⟨G1, 0, none⟩ ∧ a ≤ c1 ∧ w.heap.size ≤ G1 ∧ G1 < w1.heap.size ∧ RowAt w3 G1 0 a h1) := fun q => by
    obtain ⟨e1, e2, e3⟩ := X1.out.2.1 q
    have e4 : ¬ vo.ownBlock = some G1 := fun e => by have := HH.out.o.lt e; omega
    exact ⟨e1, e3.le, e2, e3.lt, (e3.cellsAt.chg X2.out.1 e4).chg (F := fun _ => False) (.of_plus P3) id⟩
  have R2 : Hid (0 < b → p2 = some ⟨G2, 0, none⟩ ∧ b ≤ c2 ∧ w1.heap.size ≤ G2 ∧ G2 < w2.heap.size ∧ RowAt w3 G2 0 b h2) := fun q => by
    obtain ⟨e1, e2, e3⟩ := X2.out.2.1 q
    exact ⟨e1, e3.le, e2, e3.lt, e3.cellsAt.chg (F := fun _ => False) (.of_plus P3) id⟩
  have N0 : Hid (NrmI (fun k => MemR n f k ∧ ¬ MemR n' f' k) a h1 b h2 0 h1) := by
    have N := NrmI.start (h := h1) X1.out.2.2.1 X2.out.2.2.1
    have e : (fun k => MemR a h1 k ∧ ¬ MemR b h2 k) = (fun k => MemR n f k ∧ ¬ MemR n' f' k) := funext fun k => by rw [X1.out.2.2.2.1 k, X2.out.2.2.2.1 k]
    rw [e] at N; exact N
  have L0 : a ≤ n := X1.out.2.2.2.2
  have L1 : b ≤ n' := X2.out.2.2.2.2
  have hM : Hid (OwnR w3 w2.heap.size 0 a h1) := by
    obtain ⟨cur, q1, q2⟩ := hG.out
    exact ⟨⟨cur, q1, q2⟩, Nat.zero_le _, by unfold maxLen; omega, fun i hi => by omega⟩
  clear hG P3 X1 X2 cC1 hlt3
  go_wp2_with fail
  generalize hMb : w2.heap.size = Mb at *
  generalize hMa : w1.heap.size = Ma at *
  go_loopw [2, 4, 5] (fun t2 t4 t5 wr => ∃ (a b m : Nat) (p1 p2 : Option Addr) (c1 c2 cm o1 o2 Gm : Nat) (fi fo h : Nat → Nat × Nat), t2 = .slice p1 a c1 ∧ t4 = .slice p2 b c2 ∧ t5 = .slice (some ⟨Gm, 0, none⟩) m cm ∧ m + a + b ≤ n + n' ∧
      Hid (Chg (fun k => vi.ownBlock = some k ∨ vo.ownBlock = some k) w wr ∧ Limb w.heap.size Ma wr G1 p1 a c1 o1 fi ∧ Limb Ma Mb wr G2 p2 b c2 o2 fo ∧ Mb ≤ Gm ∧ OwnR wr Gm m cm h ∧ NrmI (fun k => MemR n f k ∧ ¬ MemR n' f' k) a fi b fo m h))
    (fun t2 t4 _ _ => lenOf t2 + lenOf t4)
  case atStart => exact ⟨a, b, 0, p1, p2, c1, c2, a, 0, 0, Mb, h1, h2, h1, rfl, rfl, rfl, by omega, C3.out, R1.out, R2.out, Nat.le_refl _, hM.out, N0.out⟩
  case round =>
    clear C3 R1 R2 N0 hM L0 L1
    obtain ⟨a, b, m, p1, p2, c1, c2, cm, o1, o2, Gm, fi, fo, h, rfl, rfl, rfl, hsz, X⟩ := hrel
    by_cases ha : 0 < a
    · by_cases hb : 0 < b
      · obtain ⟨Y1, Y2, Y3, Y4, Y5, Y6⟩ := X.out
        obtain ⟨rfl, ya, yb, yc, yd⟩ := Y2 ha
        obtain ⟨rfl, za, zb, zc, zd⟩ := Y3 hb
        have r1 := yd.rng 0 ha
        have r2 := zd.rng 0 hb
        rw [Nat.zero_mul, Nat.add_zero] at r1 r2
        obtain ⟨ca0, ca1, ca2, ca3, ca4, ca5, ca6, ca7, ca8, ca9⟩ := rc_cells r1
        obtain ⟨cb0, cb1, cb2, cb3, cb4, cb5, cb6, cb7, cb8, cb9⟩ := rc_cells r2
        have g1 : G1 < wr.heap.size := yd.lt ha
        have g2 : G2 < wr.heap.size := zd.lt hb
        clear Y1 Y2 Y3 Y4 Y5 Y6 r1 r2 ya yb yc yd za zb zc zd
        go_upto_region 6 with fail
        go_cut [6, 7] from 31 to 125 (fun t6 t7 wx => ∃ b6 b7 : Nat, t6 = .pointer (some ⟨b6, 0, none⟩) ∧ t7 = .pointer (some ⟨b7, 0, none⟩) ∧ Hid (Plus wr wx ∧ wx.rangeAt b6 0 (rcL (fi 0)) ∧ wx.rangeAt b7 0 (rcL (fo 0)) ∧ wr.heap.size ≤ b6 ∧ wr.heap.size ≤ b7))
        case first =>
          obtain ⟨y0, hy0⟩ : ∃ y, Hid (y = hK (fi 0).1) := ⟨_, rfl⟩
          rw [← hy0.out] at ca0
          obtain ⟨y1, hy1⟩ : ∃ y, Hid (y = lK (fi 0).1) := ⟨_, rfl⟩
          rw [← hy1.out] at ca1
          obtain ⟨y2, hy2⟩ : ∃ y, Hid (y = sK (fi 0).1) := ⟨_, rfl⟩
          rw [← hy2.out] at ca3
          obtain ⟨y3, hy3⟩ : ∃ y, Hid (y = hK (fi 0).2) := ⟨_, rfl⟩
          rw [← hy3.out] at ca5
          obtain ⟨y4, hy4⟩ : ∃ y, Hid (y = lK (fi 0).2) := ⟨_, rfl⟩
          rw [← hy4.out] at ca6
          obtain ⟨y5, hy5⟩ : ∃ y, Hid (y = sK (fi 0).2) := ⟨_, rfl⟩
          rw [← hy5.out] at ca8
          obtain ⟨y6, hy6⟩ : ∃ y, Hid (y = hK (fo 0).1) := ⟨_, rfl⟩
          rw [← hy6.out] at cb0
          obtain ⟨y7, hy7⟩ : ∃ y, Hid (y = lK (fo 0).1) := ⟨_, rfl⟩
          rw [← hy7.out] at cb1
          obtain ⟨y8, hy8⟩ : ∃ y, Hid (y = sK (fo 0).1) := ⟨_, rfl⟩
          rw [← hy8.out] at cb3
          obtain ⟨y9, hy9⟩ : ∃ y, Hid (y = hK (fo 0).2) := ⟨_, rfl⟩
          rw [← hy9.out] at cb5
          obtain ⟨y10, hy10⟩ : ∃ y, Hid (y = lK (fo 0).2) := ⟨_, rfl⟩
          rw [← hy10.out] at cb6
          obtain ⟨y11, hy11⟩ : ∃ y, Hid (y = sK (fo 0).2) := ⟨_, rfl⟩
          rw [← hy11.out] at cb8
          go_region_held3 (fun w' => KS (wr) w') (repeat (first | exact KS.refl _ | assumption | apply KS.drew | apply KS.plus | apply KS.alloc | (refine KS.setCell ?_ _ _ _ (by first | (simp; done) | (simp; omega))))) (fail)
          all_goals have hz0 := hy0.out
          all_goals have hz1 := hy1.out
          all_goals have hz2 := hy2.out
          all_goals have hz3 := hy3.out
          all_goals have hz4 := hy4.out
          all_goals have hz5 := hy5.out
          all_goals have hz6 := hy6.out
          all_goals have hz7 := hy7.out
          all_goals have hz8 := hy8.out
          all_goals have hz9 := hy9.out
          all_goals have hz10 := hy10.out
          all_goals have hz11 := hy11.out
          all_goals clear hy0 hy1 hy2 hy3 hy4 hy5 hy6 hy7 hy8 hy9 hy10 hy11
          all_goals subst hz0 hz1 hz2 hz3 hz4 hz5 hz6 hz7 hz8 hz9 hz10 hz11
          · go_wp2_with fail
            go_meet
            case rel =>
              refine ⟨_, _, rfl, rfl, ?_, ?_, ?_, ?_, ?_⟩
              · repeat (first | exact Plus.refl _ | refine Plus.alloc ?_ _ | refine Plus.plus ?_ _ _ | refine Plus.drew ?_ | refine Plus.drewN ?_ _)
              · exact (World.rangeAt_drew _ _ _ _).2 (World.rangeAt_alloc (rangeAt_new wr _ (fi 0) rfl) _)
              · exact (World.rangeAt_drew _ _ _ _).2 (rangeAt_new (wr.alloc _) _ (fo 0) (by simp))
              · exact Nat.le_refl _
              · omega
          · go_wp2_with fail
            go_meet
            case rel =>
              refine ⟨_, _, rfl, rfl, ?_, ?_, ?_, ?_, ?_⟩
              · repeat (first | exact Plus.refl _ | refine Plus.alloc ?_ _ | refine Plus.plus ?_ _ _ | refine Plus.drew ?_ | refine Plus.drewN ?_ _)
              · exact (World.rangeAt_drew _ _ _ _).2 (rangeAt_new (wr.alloc _) _ (fi 0) (by simp))
              · exact (World.rangeAt_drew _ _ _ _).2 (World.rangeAt_alloc (rangeAt_new wr _ (fo 0) rfl) _)
              · omega
              · exact Nat.le_refl _
        case rest =>
          obtain ⟨b6, b7, rfl, rfl, Z⟩ := hcut
          clear ca0 cb0 ca1 cb1 ca2 cb2 ca3 cb3 ca4 cb4 ca5 cb5 ca6 cb6 ca7 cb7 ca8 cb8 ca9 cb9 g1 g2
          have Z1 : Hid (Plus wr wc) := Z.out.1
          have Z6 : Hid (wc.rangeAt b6 0 (rcL (fi 0))) := Z.out.2.1
          have Z7 : Hid (wc.rangeAt b7 0 (rcL (fo 0))) := Z.out.2.2.1
          obtain ⟨ca0, ca1, ca2, ca3, ca4, ca5, ca6, ca7, ca8, ca9⟩ := rc_cells Z.out.2.1
          obtain ⟨cb0, cb1, cb2, cb3, cb4, cb5, cb6, cb7, cb8, cb9⟩ := rc_cells Z.out.2.2.1
          have L6 := Z.out.2.2.2.1
          have L7 := Z.out.2.2.2.2
          have b6l : b6 < wc.heap.size := World.block_lt_of_cell? _ _ ca0
          have b7l : b7 < wc.heap.size := World.block_lt_of_cell? _ _ cb0
          clear Z
          have oi0 : okR (fi 0) := X.out.2.2.2.2.2.ci.ok 0 ha
          have oo0 : okR (fo 0) := X.out.2.2.2.2.2.co.ok 0 hb
          have le1 := oi0.le
          have le2 := oo0.le
          have ya : a ≤ c1 := (X.out.2.1 ha).2.1
          have yb : b ≤ c2 := (X.out.2.2.1 hb).2.1
          cases x1 : decide ((fo 0).2 < (fi 0).1)
          · cases x2 : decide ((fi 0).2 < (fo 0).1)
            · cases x3 : decide ((fo 0).1 ≤ (fi 0).1 ∧ (fi 0).2 ≤ (fo 0).2)
              · cases x4 : decide ((fi 0).1 < (fo 0).1 ∧ (fo 0).2 < (fi 0).2)
                · cases x5 : decide ((fo 0).1 ≤ (fi 0).1 ∧ (fo 0).2 < (fi 0).2)
                  · have x6 : decide ((fi 0).1 < (fo 0).1 ∧ (fi 0).2 ≤ (fo 0).2) = true := by
                      simp only [decide_eq_false_iff_not, decide_eq_true_eq] at x1 x2 x3 x4 x5 ⊢; omega
                    go_wp2_with (first | (go_at_call 107; (with_reducible refine (k107 (fo 0) oo0 _).mono ?_); rintro e w' ⟨rfl, dd, oo, rfl⟩) | (go_at_call 107; (with_reducible refine (k107 (fi 0) oi0 _).mono ?_); rintro e w' ⟨rfl, dd, oo, rfl⟩) | (go_at_call 160; (with_reducible refine (k160 (fo 0) (fi 0) oo0 oi0 _ x1 _).mono ?_); rintro e w' ⟨rfl, dd, oo, rfl⟩) | (go_at_call 160; (with_reducible refine (k160 (fi 0) (fo 0) oi0 oo0 _ x2 _).mono ?_); rintro e w' ⟨rfl, dd, oo, rfl⟩) | (go_at_call 104; (with_reducible refine (k104 (fi 0) (fo 0) oi0 oo0 _ x3 _).mono ?_); rintro e w' ⟨rfl, dd, oo, rfl⟩) | (go_at_call 161; (with_reducible refine (k161 (fo 0) (fi 0) oo0 oi0 _ x4 _).mono ?_); rintro e w' ⟨rfl, dd, oo, rfl⟩) | (go_at_call 164; (with_reducible refine (k164 (fo 0) (fi 0) oo0 oi0 _ x5 _).mono ?_); rintro e w' ⟨rfl, dd, oo, rfl⟩) | (go_at_call 165; (with_reducible refine (k165 (fo 0) (fi 0) oo0 oi0 _ x6 _).mono ?_); rintro e w' ⟨rfl, dd, oo, rfl⟩))
                    have pv0 : 0 < (fo 0).1 := by simp only [decide_eq_false_iff_not, decide_eq_true_eq] at x2 x6; omega
                    have pv : okK ((fo 0).1 - 1) := (ok_between oi0.a oi0.b oi0.s (by simp only [decide_eq_false_iff_not, decide_eq_true_eq] at x2 x6; omega) (by simp only [decide_eq_false_iff_not, decide_eq_true_eq] at x2 x6; omega)).1
                    obtain ⟨y0, hy0⟩ : ∃ y, Hid (y = hK (fi 0).1) := ⟨_, rfl⟩
                    obtain ⟨y1, hy1⟩ : ∃ y, Hid (y = lK (fi 0).1) := ⟨_, rfl⟩
                    obtain ⟨y2, hy2⟩ : ∃ y, Hid (y = sK (fi 0).1) := ⟨_, rfl⟩
                    obtain ⟨y3, hy3⟩ : ∃ y, Hid (y = hK (fo 0).1) := ⟨_, rfl⟩
                    obtain ⟨y4, hy4⟩ : ∃ y, Hid (y = lK (fo 0).1) := ⟨_, rfl⟩
                    obtain ⟨y5, hy5⟩ : ∃ y, Hid (y = sK (fo 0).1) := ⟨_, rfl⟩
                    obtain ⟨y6, hy6⟩ : ∃ y, Hid (y = hK ((fo 0).1 - 1)) := ⟨_, rfl⟩
                    obtain ⟨y7, hy7⟩ : ∃ y, Hid (y = lK ((fo 0).1 - 1)) := ⟨_, rfl⟩
                    obtain ⟨y8, hy8⟩ : ∃ y, Hid (y = sK ((fo 0).1 - 1)) := ⟨_, rfl⟩
                    have QQ : ∀ W, Calls Tryz.prog 162 #[.agg #[.int .u64 y3, .int .u64 y4, .bool true, .bool y5, .string ⟨#[]⟩]] W fun e w' => e = .returned (.agg #[.int .u64 y6, .int .u64 y7, .bool true, .bool y8, .string ⟨#[]⟩]) ∧ Plus W w' := by
                      intro W
                      rw [hy3.out, hy4.out, hy5.out, hy6.out, hy7.out, hy8.out]
                      exact k162 (fo 0).1 pv0 oo0.a pv W
                    have HR : ∀ (W : World) (B : Nat), B = W.heap.size → (W.alloc (.cells #[.int .u64 y0, .int .u64 y1, .bool true, .bool y2, .string ⟨#[]⟩, .int .u64 y6, .int .u64 y7, .bool true, .bool y8, .string ⟨#[]⟩] 80)).rangeAt B (0 + 0 * 10) (rcL ((fi 0).1, (fo 0).1 - 1)) := by
                      intro W B e
                      rw [hy0.out, hy1.out, hy2.out, hy6.out, hy7.out, hy8.out]
                      exact rangeAt_new W B ((fi 0).1, (fo 0).1 - 1) e
                    have gmlt : Gm < wr.heap.size := X.out.2.2.2.2.1.lt
                    have ea0 : ∀ w', Chg (AtV (.slice (some ⟨Gm, 0, none⟩) m cm)) wc w' → w'.cell? ⟨b6, 0, none⟩ = some (.int .u64 y0) := fun w' q => by
                      rw [hy0.out]; exact ((Nat.zero_add 0 ▸ rangeAt_chg q Z6.out (by intro e; simp only [AtV, Value.ownBlock, Option.some.injEq] at e; omega) 0 _ rfl))
                    have ea1 : ∀ w', Chg (AtV (.slice (some ⟨Gm, 0, none⟩) m cm)) wc w' → w'.cell? ⟨b6, 1, none⟩ = some (.int .u64 y1) := fun w' q => by
                      rw [hy1.out]; exact ((Nat.zero_add 1 ▸ rangeAt_chg q Z6.out (by intro e; simp only [AtV, Value.ownBlock, Option.some.injEq] at e; omega) 1 _ rfl))
                    have ea2 : ∀ w', Chg (AtV (.slice (some ⟨Gm, 0, none⟩) m cm)) wc w' → w'.cell? ⟨b6, 2, none⟩ = some (.bool true) := fun w' q => by
                      exact ((Nat.zero_add 2 ▸ rangeAt_chg q Z6.out (by intro e; simp only [AtV, Value.ownBlock, Option.some.injEq] at e; omega) 2 _ rfl))
                    have ea3 : ∀ w', Chg (AtV (.slice (some ⟨Gm, 0, none⟩) m cm)) wc w' → w'.cell? ⟨b6, 3, none⟩ = some (.bool y2) := fun w' q => by
                      rw [hy2.out]; exact ((Nat.zero_add 3 ▸ rangeAt_chg q Z6.out (by intro e; simp only [AtV, Value.ownBlock, Option.some.injEq] at e; omega) 3 _ rfl))
                    have ea4 : ∀ w', Chg (AtV (.slice (some ⟨Gm, 0, none⟩) m cm)) wc w' → w'.cell? ⟨b6, 4, none⟩ = some (.string ⟨#[]⟩) := fun w' q => by
                      exact ((Nat.zero_add 4 ▸ rangeAt_chg q Z6.out (by intro e; simp only [AtV, Value.ownBlock, Option.some.injEq] at e; omega) 4 _ rfl))
                    have eb0 : ∀ w', Chg (AtV (.slice (some ⟨Gm, 0, none⟩) m cm)) wc w' → w'.cell? ⟨b7, 0, none⟩ = some (.int .u64 y3) := fun w' q => by
                      rw [hy3.out]; exact ((Nat.zero_add 0 ▸ rangeAt_chg q Z7.out (by intro e; simp only [AtV, Value.ownBlock, Option.some.injEq] at e; omega) 0 _ rfl))
                    have eb1 : ∀ w', Chg (AtV (.slice (some ⟨Gm, 0, none⟩) m cm)) wc w' → w'.cell? ⟨b7, 1, none⟩ = some (.int .u64 y4) := fun w' q => by
                      rw [hy4.out]; exact ((Nat.zero_add 1 ▸ rangeAt_chg q Z7.out (by intro e; simp only [AtV, Value.ownBlock, Option.some.injEq] at e; omega) 1 _ rfl))
                    have eb2 : ∀ w', Chg (AtV (.slice (some ⟨Gm, 0, none⟩) m cm)) wc w' → w'.cell? ⟨b7, 2, none⟩ = some (.bool true) := fun w' q => by
                      exact ((Nat.zero_add 2 ▸ rangeAt_chg q Z7.out (by intro e; simp only [AtV, Value.ownBlock, Option.some.injEq] at e; omega) 2 _ rfl))
                    have eb3 : ∀ w', Chg (AtV (.slice (some ⟨Gm, 0, none⟩) m cm)) wc w' → w'.cell? ⟨b7, 3, none⟩ = some (.bool y5) := fun w' q => by
                      rw [hy5.out]; exact ((Nat.zero_add 3 ▸ rangeAt_chg q Z7.out (by intro e; simp only [AtV, Value.ownBlock, Option.some.injEq] at e; omega) 3 _ rfl))
                    have eb4 : ∀ w', Chg (AtV (.slice (some ⟨Gm, 0, none⟩) m cm)) wc w' → w'.cell? ⟨b7, 4, none⟩ = some (.string ⟨#[]⟩) := fun w' q => by
                      exact ((Nat.zero_add 4 ▸ rangeAt_chg q Z7.out (by intro e; simp only [AtV, Value.ownBlock, Option.some.injEq] at e; omega) 4 _ rfl))
                    clear ca0 cb0 ca1 cb1 ca2 cb2 ca3 cb3 ca4 cb4 ca5 cb5 ca6 cb6 ca7 cb7 ca8 cb8 ca9 cb9
                    go_region_held3 (fun w' => Chg (AtV (.slice (some ⟨Gm, 0, none⟩) m cm)) wc w') (solve | (with_reducible assumption) | (repeat (with_reducible first | refine Chg.plus ?_ _ _ | refine Chg.alloc ?_ _ | refine Chg.drew ?_ | exact Chg.refl _ _ | assumption)) | (refine Chg.trans ?_ (by with_reducible assumption); repeat (with_reducible first | refine Chg.plus ?_ _ _ | refine Chg.alloc ?_ _ | refine Chg.drew ?_ | exact Chg.refl _ _ | assumption))) (first | (go_at_call 162; (with_reducible refine (QQ _).mono ?_); rintro e w' ⟨rfl, dd, oo, rfl⟩) | (refine step_app80 rfl _ _ rfl (.slice (some ⟨Gm, 0, none⟩) m cm) m h rfl ?hown _ 0 1 1 (fun _ => ((fi 0).1, (fo 0).1 - 1)) rfl ?hr ?sz ?_; (case hown => exact .inr ⟨Gm, cm, rfl, X.out.2.2.2.2.1.chg (F := fun _ => False) (by (repeat (with_reducible first | refine Chg.plus ?_ _ _ | refine Chg.alloc ?_ _ | refine Chg.drew ?_ | exact Chg.of_plus Z1.out | exact Chg.refl _ _))) id⟩); (case hr => intro i1 hi1; rw [show i1 = 0 by omega]; exact HR _ _ (by simp)); (case sz => omega); intro v' w' hO' hC' hat))
                    have HWf : Hid (Chg (fun k => k = Gm) wr w') := Chg.trans (by (repeat (with_reducible first | refine Chg.plus ?_ _ _ | refine Chg.alloc ?_ _ | refine Chg.drew ?_ | exact Chg.of_plus Z1.out | exact Chg.refl _ _))) (hC'.mono (fun k _ e => by simp only [AtV, Value.ownBlock, Option.some.injEq] at e; exact e.symm))
                    clear ea0 eb0 ea1 eb1 ea2 eb2 ea3 eb3 ea4 eb4 QQ HR hC'
                    rcases hO'.out with ⟨_, h0⟩ | ⟨G', cap', rfl, hO''⟩
                    · omega
                    clear hO'
                    have hO' := hO''
                    clear hO''
                    have hwz : wr.heap.size ≤ wc.heap.size := (Chg.of_plus (F := fun _ => False) Z1.out).size
                    have hG' : Gm = G' ∨ wr.heap.size ≤ G' := by
                      rcases hat.out with hat | hat
                      · simp only [Value.ownBlock, Option.some.injEq] at hat; exact .inl hat.symm
                      · simp only [Value.ownBlock, Option.some.injEq] at hat; rw [hat]; first | omega | (simp; omega)
                    have hMbw : Gm < wr.heap.size := X.out.2.2.2.2.1.lt
                    have hMb' : Mb ≤ G' := by have := X.out.2.2.2.1; omega
                    clear hat
                    have HO : Hid (OwnR w' G' (m + 1) cap' (snoc m h ((fi 0).1, (fo 0).1 - 1))) := hO'
                    clear hO'
                    have hz0 := hy0.out
                    have hz1 := hy1.out
                    have hz2 := hy2.out
                    have hz3 := hy3.out
                    have hz4 := hy4.out
                    have hz5 := hy5.out
                    have hz6 := hy6.out
                    have hz7 := hy7.out
                    have hz8 := hy8.out
                    clear hy0 hy1 hy2 hy3 hy4 hy5 hy6 hy7 hy8
                    subst hz0 hz1 hz2 hz3 hz4 hz5 hz6 hz7 hz8
                    go_wp2_with fail
                    go_roundw
                    case rel => exact ⟨a - 1, b, m + 1, _, _, c1 - 1, c2, cap', o1 + 10, o2, G', tl fi, fo, snoc m h ((fi 0).1, (fo 0).1 - 1), rfl, rfl, rfl, by omega, Chg.over X.out.1 HWf.out (by have := X.out.2.2.2.1; omega), (X.out.2.1.chg HWf.out (fun p q e => by have := X.out.2.2.2.1; omega)).tl, X.out.2.2.1.chg HWf.out (fun p q e => by have := X.out.2.2.2.1; omega), hMb', HO.out, X.out.2.2.2.2.2.last ha hb (by simp only [decide_eq_false_iff_not, decide_eq_true_eq] at x6; omega) (by simp only [decide_eq_false_iff_not, decide_eq_true_eq] at x2; omega) (by simp only [decide_eq_false_iff_not, decide_eq_true_eq] at x6; omega)⟩
                    case measure => simp [lenOf]; omega
                  · have nx : okK ((fo 0).2 + 1) := (ok_between oi0.a oi0.b oi0.s (by simp only [decide_eq_false_iff_not, decide_eq_true_eq] at x1 x5; omega) (by simp only [decide_eq_false_iff_not, decide_eq_true_eq] at x1 x5; omega)).1
                    have G1f := X.out.2.1 ha
                    have HMG := X.out.2.2.2.1
                    have L1c : Limb w.heap.size Ma wc G1 _ a c1 o1 fi := X.out.2.1.chg (Chg.of_plus (F := fun _ => False) Z1.out) (fun _ _ => id)
                    have hr0 := (L1c ha).2.2.2.2.rng 0 ha
                    have ht0 := (L1c ha).2.2.2.2.thr 0 ha
                    rw [Nat.zero_mul, Nat.add_zero] at hr0 ht0
                    have g1c : G1 < wc.heap.size := (L1c ha).2.2.2.2.lt ha
                    obtain ⟨cd0, cd1, cd2, cd3, cd4, cd5, cd6, cd7, cd8, cd9⟩ := rc_cells hr0
                    obtain ⟨fd0, fd1, fd2, fd3, fd4, fd5, fd6, fd7, fd8, fd9⟩ := rc_frozen ht0
                    clear hr0 ht0
                    have L1h : Hid (Limb w.heap.size Ma wc G1 (some ⟨G1, o1, none⟩) a c1 o1 fi) := L1c
                    have G1h : Hid (w.heap.size ≤ G1 ∧ G1 < Ma) := ⟨G1f.2.2.1, G1f.2.2.2.1⟩
                    clear L1c G1f
                    go_wp2_with (first | (go_at_call 107; (with_reducible refine (k107 (fo 0) oo0 _).mono ?_); rintro e w' ⟨rfl, dd, oo, rfl⟩) | (go_at_call 107; (with_reducible refine (k107 (fi 0) oi0 _).mono ?_); rintro e w' ⟨rfl, dd, oo, rfl⟩) | (go_at_call 160; (with_reducible refine (k160 (fo 0) (fi 0) oo0 oi0 _ x1 _).mono ?_); rintro e w' ⟨rfl, dd, oo, rfl⟩) | (go_at_call 160; (with_reducible refine (k160 (fi 0) (fo 0) oi0 oo0 _ x2 _).mono ?_); rintro e w' ⟨rfl, dd, oo, rfl⟩) | (go_at_call 104; (with_reducible refine (k104 (fi 0) (fo 0) oi0 oo0 _ x3 _).mono ?_); rintro e w' ⟨rfl, dd, oo, rfl⟩) | (go_at_call 161; (with_reducible refine (k161 (fo 0) (fi 0) oo0 oi0 _ x4 _).mono ?_); rintro e w' ⟨rfl, dd, oo, rfl⟩) | (go_at_call 164; (with_reducible refine (k164 (fo 0) (fi 0) oo0 oi0 _ x5 _).mono ?_); rintro e w' ⟨rfl, dd, oo, rfl⟩) | (go_at_call 163; (with_reducible refine (k163 (fo 0).2 oo0.b nx _).mono ?_); rintro e w' ⟨rfl, dd, oo, rfl⟩))
                    rw [setCells_ad]
                    go_roundw
                    case rel => exact ⟨a, b - 1, m, _, _, c1, c2 - 1, cm, o1, o2 + 10, Gm, _, tl fo, h, rfl, rfl, rfl, by omega, Chg.over X.out.1 (show Chg (fun k => k = G1) wr _ by (repeat (with_reducible first | refine Chg.plus ?_ _ _ | refine Chg.alloc ?_ _ | refine Chg.drew ?_ | (refine Chg.setCells G1 _ _ ?_ (fun _ => rfl)) | exact Chg.of_plus Z1.out | exact Chg.refl _ _))) G1h.out.1, (L1h.out.set0 ha _).chg (F := fun _ => False) (by (repeat (with_reducible first | refine Chg.plus ?_ _ _ | refine Chg.alloc ?_ _ | refine Chg.drew ?_ | (refine Chg.setCells G1 _ _ ?_ (fun _ => rfl)) | exact Chg.of_plus Z1.out | exact Chg.refl _ _))) (fun _ _ => id), (X.out.2.2.1.chg (F := fun k => k = G1) (by (repeat (with_reducible first | refine Chg.plus ?_ _ _ | refine Chg.alloc ?_ _ | refine Chg.drew ?_ | (refine Chg.setCells G1 _ _ ?_ (fun _ => rfl)) | exact Chg.of_plus Z1.out | exact Chg.refl _ _))) (fun p q e => by have := G1h.out.2; omega)).tl, HMG, X.out.2.2.2.2.1.chg (F := fun k => k = G1) (by (repeat (with_reducible first | refine Chg.plus ?_ _ _ | refine Chg.alloc ?_ _ | refine Chg.drew ?_ | (refine Chg.setCells G1 _ _ ?_ (fun _ => rfl)) | exact Chg.of_plus Z1.out | exact Chg.refl _ _))) (by have := G1h.out.2; omega), X.out.2.2.2.2.2.first ha hb (by simp only [decide_eq_false_iff_not, decide_eq_true_eq] at x1 x5; omega) (by simp only [decide_eq_false_iff_not, decide_eq_true_eq] at x1 x5; omega) (by simp only [decide_eq_false_iff_not, decide_eq_true_eq] at x1 x5; omega)⟩
                    case measure => simp [lenOf]; omega
                · have nx : okK ((fo 0).2 + 1) := (ok_between oi0.a oi0.b oi0.s (by simp only [decide_eq_false_iff_not, decide_eq_true_eq] at x1 x4; omega) (by simp only [decide_eq_false_iff_not, decide_eq_true_eq] at x1 x4; omega)).1
                  go_wp2_with (first | (go_at_call 107; (with_reducible refine (k107 (fo 0) oo0 _).mono ?_); rintro e w' ⟨rfl, dd, oo, rfl⟩) | (go_at_call 107; (with_reducible refine (k107 (fi 0) oi0 _).mono ?_); rintro e w' ⟨rfl, dd, oo, rfl⟩) | (go_at_call 160; (with_reducible refine (k160 (fo 0) (fi 0) oo0 oi0 _ x1 _).mono ?_); rintro e w' ⟨rfl, dd, oo, rfl⟩) | (go_at_call 160; (with_reducible refine (k160 (fi 0) (fo 0) oi0 oo0 _ x2 _).mono ?_); rintro e w' ⟨rfl, dd, oo, rfl⟩) | (go_at_call 104; (with_reducible refine (k104 (fi 0) (fo 0) oi0 oo0 _ x3 _).mono ?_); rintro e w' ⟨rfl, dd, oo, rfl⟩) | (go_at_call 161; (with_reducible refine (k161 (fo 0) (fi 0) oo0 oi0 _ x4 _).mono ?_); rintro e w' ⟨rfl, dd, oo, rfl⟩))
                  have pv0 : 0 < (fo 0).1 := by simp only [decide_eq_false_iff_not, decide_eq_true_eq] at x2 x4; omega
                  have pv : okK ((fo 0).1 - 1) := (ok_between oi0.a oi0.b oi0.s (by simp only [decide_eq_false_iff_not, decide_eq_true_eq] at x2 x4; omega) (by simp only [decide_eq_false_iff_not, decide_eq_true_eq] at x2 x4; omega)).1
                  obtain ⟨y0, hy0⟩ : ∃ y, Hid (y = hK (fi 0).1) := ⟨_, rfl⟩
                  obtain ⟨y1, hy1⟩ : ∃ y, Hid (y = lK (fi 0).1) := ⟨_, rfl⟩
                  obtain ⟨y2, hy2⟩ : ∃ y, Hid (y = sK (fi 0).1) := ⟨_, rfl⟩
                  obtain ⟨y3, hy3⟩ : ∃ y, Hid (y = hK (fo 0).1) := ⟨_, rfl⟩
                  obtain ⟨y4, hy4⟩ : ∃ y, Hid (y = lK (fo 0).1) := ⟨_, rfl⟩
                  obtain ⟨y5, hy5⟩ : ∃ y, Hid (y = sK (fo 0).1) := ⟨_, rfl⟩
                  obtain ⟨y6, hy6⟩ : ∃ y, Hid (y = hK ((fo 0).1 - 1)) := ⟨_, rfl⟩
                  obtain ⟨y7, hy7⟩ : ∃ y, Hid (y = lK ((fo 0).1 - 1)) := ⟨_, rfl⟩
                  obtain ⟨y8, hy8⟩ : ∃ y, Hid (y = sK ((fo 0).1 - 1)) := ⟨_, rfl⟩
                  have QQ : ∀ W, Calls Tryz.prog 162 #[.agg #[.int .u64 y3, .int .u64 y4, .bool true, .bool y5, .string ⟨#[]⟩]] W fun e w' => e = .returned (.agg #[.int .u64 y6, .int .u64 y7, .bool true, .bool y8, .string ⟨#[]⟩]) ∧ Plus W w' := by
                    intro W
                    rw [hy3.out, hy4.out, hy5.out, hy6.out, hy7.out, hy8.out]
                    exact k162 (fo 0).1 pv0 oo0.a pv W
                  have HR : ∀ (W : World) (B : Nat), B = W.heap.size → (W.alloc (.cells #[.int .u64 y0, .int .u64 y1, .bool true, .bool y2, .string ⟨#[]⟩, .int .u64 y6, .int .u64 y7, .bool true, .bool y8, .string ⟨#[]⟩] 80)).rangeAt B (0 + 0 * 10) (rcL ((fi 0).1, (fo 0).1 - 1)) := by
                    intro W B e
                    rw [hy0.out, hy1.out, hy2.out, hy6.out, hy7.out, hy8.out]
                    exact rangeAt_new W B ((fi 0).1, (fo 0).1 - 1) e
                  have gmlt : Gm < wr.heap.size := X.out.2.2.2.2.1.lt
                  have ea0 : ∀ w', Chg (AtV (.slice (some ⟨Gm, 0, none⟩) m cm)) wc w' → w'.cell? ⟨b6, 0, none⟩ = some (.int .u64 y0) := fun w' q => by
                    rw [hy0.out]; exact ((Nat.zero_add 0 ▸ rangeAt_chg q Z6.out (by intro e; simp only [AtV, Value.ownBlock, Option.some.injEq] at e; omega) 0 _ rfl))
                  have ea1 : ∀ w', Chg (AtV (.slice (some ⟨Gm, 0, none⟩) m cm)) wc w' → w'.cell? ⟨b6, 1, none⟩ = some (.int .u64 y1) := fun w' q => by
                    rw [hy1.out]; exact ((Nat.zero_add 1 ▸ rangeAt_chg q Z6.out (by intro e; simp only [AtV, Value.ownBlock, Option.some.injEq] at e; omega) 1 _ rfl))
                  have ea2 : ∀ w', Chg (AtV (.slice (some ⟨Gm, 0, none⟩) m cm)) wc w' → w'.cell? ⟨b6, 2, none⟩ = some (.bool true) := fun w' q => by
                    exact ((Nat.zero_add 2 ▸ rangeAt_chg q Z6.out (by intro e; simp only [AtV, Value.ownBlock, Option.some.injEq] at e; omega) 2 _ rfl))
                  have ea3 : ∀ w', Chg (AtV (.slice (some ⟨Gm, 0, none⟩) m cm)) wc w' → w'.cell? ⟨b6, 3, none⟩ = some (.bool y2) := fun w' q => by
                    rw [hy2.out]; exact ((Nat.zero_add 3 ▸ rangeAt_chg q Z6.out (by intro e; simp only [AtV, Value.ownBlock, Option.some.injEq] at e; omega) 3 _ rfl))
                  have ea4 : ∀ w', Chg (AtV (.slice (some ⟨Gm, 0, none⟩) m cm)) wc w' → w'.cell? ⟨b6, 4, none⟩ = some (.string ⟨#[]⟩) := fun w' q => by
                    exact ((Nat.zero_add 4 ▸ rangeAt_chg q Z6.out (by intro e; simp only [AtV, Value.ownBlock, Option.some.injEq] at e; omega) 4 _ rfl))
                  have eb0 : ∀ w', Chg (AtV (.slice (some ⟨Gm, 0, none⟩) m cm)) wc w' → w'.cell? ⟨b7, 0, none⟩ = some (.int .u64 y3) := fun w' q => by
                    rw [hy3.out]; exact ((Nat.zero_add 0 ▸ rangeAt_chg q Z7.out (by intro e; simp only [AtV, Value.ownBlock, Option.some.injEq] at e; omega) 0 _ rfl))
                  have eb1 : ∀ w', Chg (AtV (.slice (some ⟨Gm, 0, none⟩) m cm)) wc w' → w'.cell? ⟨b7, 1, none⟩ = some (.int .u64 y4) := fun w' q => by
                    rw [hy4.out]; exact ((Nat.zero_add 1 ▸ rangeAt_chg q Z7.out (by intro e; simp only [AtV, Value.ownBlock, Option.some.injEq] at e; omega) 1 _ rfl))
                  have eb2 : ∀ w', Chg (AtV (.slice (some ⟨Gm, 0, none⟩) m cm)) wc w' → w'.cell? ⟨b7, 2, none⟩ = some (.bool true) := fun w' q => by
                    exact ((Nat.zero_add 2 ▸ rangeAt_chg q Z7.out (by intro e; simp only [AtV, Value.ownBlock, Option.some.injEq] at e; omega) 2 _ rfl))
                  have eb3 : ∀ w', Chg (AtV (.slice (some ⟨Gm, 0, none⟩) m cm)) wc w' → w'.cell? ⟨b7, 3, none⟩ = some (.bool y5) := fun w' q => by
                    rw [hy5.out]; exact ((Nat.zero_add 3 ▸ rangeAt_chg q Z7.out (by intro e; simp only [AtV, Value.ownBlock, Option.some.injEq] at e; omega) 3 _ rfl))
                  have eb4 : ∀ w', Chg (AtV (.slice (some ⟨Gm, 0, none⟩) m cm)) wc w' → w'.cell? ⟨b7, 4, none⟩ = some (.string ⟨#[]⟩) := fun w' q => by
                    exact ((Nat.zero_add 4 ▸ rangeAt_chg q Z7.out (by intro e; simp only [AtV, Value.ownBlock, Option.some.injEq] at e; omega) 4 _ rfl))
                  clear ca0 cb0 ca1 cb1 ca2 cb2 ca3 cb3 ca4 cb4 ca5 cb5 ca6 cb6 ca7 cb7 ca8 cb8 ca9 cb9
                  go_region_held3 (fun w' => Chg (AtV (.slice (some ⟨Gm, 0, none⟩) m cm)) wc w') (solve | (with_reducible assumption) | (repeat (with_reducible first | refine Chg.plus ?_ _ _ | refine Chg.alloc ?_ _ | refine Chg.drew ?_ | exact Chg.refl _ _ | assumption)) | (refine Chg.trans ?_ (by with_reducible assumption); repeat (with_reducible first | refine Chg.plus ?_ _ _ | refine Chg.alloc ?_ _ | refine Chg.drew ?_ | exact Chg.refl _ _ | assumption))) (first | (go_at_call 162; (with_reducible refine (QQ _).mono ?_); rintro e w' ⟨rfl, dd, oo, rfl⟩) | (refine step_app80 rfl _ _ rfl (.slice (some ⟨Gm, 0, none⟩) m cm) m h rfl ?hown _ 0 1 1 (fun _ => ((fi 0).1, (fo 0).1 - 1)) rfl ?hr ?sz ?_; (case hown => exact .inr ⟨Gm, cm, rfl, X.out.2.2.2.2.1.chg (F := fun _ => False) (by (repeat (with_reducible first | refine Chg.plus ?_ _ _ | refine Chg.alloc ?_ _ | refine Chg.drew ?_ | exact Chg.of_plus Z1.out | exact Chg.refl _ _))) id⟩); (case hr => intro i1 hi1; rw [show i1 = 0 by omega]; exact HR _ _ (by simp)); (case sz => omega); intro v' w' hO' hC' hat))
                  have HD : Hid (Chg (AtV (.slice (some ⟨Gm, 0, none⟩) m cm)) wc w') := Chg.trans (by (repeat (with_reducible first | refine Chg.plus ?_ _ _ | refine Chg.alloc ?_ _ | refine Chg.drew ?_ | exact Chg.of_plus Z1.out | exact Chg.refl _ _))) hC'
                  clear hC'
                  have HWf : Hid (Chg (fun k => k = Gm) wr w') := Chg.trans (Chg.of_plus Z1.out) (HD.out.mono (fun k _ e => by simp only [AtV, Value.ownBlock, Option.some.injEq] at e; exact e.symm))
                  clear ea0 eb0 ea1 eb1 ea2 eb2 ea3 eb3 ea4 eb4 QQ HR
                  rcases hO'.out with ⟨_, h0⟩ | ⟨G', cap', rfl, hO''⟩
                  · omega
                  clear hO'
                  have hO' := hO''
                  clear hO''
                  have hwz : wr.heap.size ≤ wc.heap.size := (Chg.of_plus (F := fun _ => False) Z1.out).size
                  have hG' : Gm = G' ∨ wr.heap.size ≤ G' := by
                    rcases hat.out with hat | hat
                    · simp only [Value.ownBlock, Option.some.injEq] at hat; exact .inl hat.symm
                    · simp only [Value.ownBlock, Option.some.injEq] at hat; rw [hat]; first | omega | (simp; omega)
                  have hMbw : Gm < wr.heap.size := X.out.2.2.2.2.1.lt
                  have hMb' : Mb ≤ G' := by have := X.out.2.2.2.1; omega
                  clear hat
                  have HO : Hid (OwnR w' G' (m + 1) cap' (snoc m h ((fi 0).1, (fo 0).1 - 1))) := hO'
                  clear hO'
                  have hz0 := hy0.out
                  have hz1 := hy1.out
                  have hz2 := hy2.out
                  have hz3 := hy3.out
                  have hz4 := hy4.out
                  have hz5 := hy5.out
                  have hz6 := hy6.out
                  have hz7 := hy7.out
                  have hz8 := hy8.out
                  clear hy0 hy1 hy2 hy3 hy4 hy5 hy6 hy7 hy8
                  subst hz0 hz1 hz2 hz3 hz4 hz5 hz6 hz7 hz8

                  have HMG := X.out.2.2.2.1
                  have G1h : Hid (w.heap.size ≤ G1 ∧ G1 < Ma) := ⟨(X.out.2.1 ha).2.2.1, (X.out.2.1 ha).2.2.2.1⟩
                  have L1h : Hid (Limb w.heap.size Ma w' G1 (some ⟨G1, o1, none⟩) a c1 o1 fi) := X.out.2.1.chg HWf.out (fun p q e => by have := X.out.2.2.2.1; omega)
                  have hr0 := (L1h.out ha).2.2.2.2.rng 0 ha
                  have ht0 := (L1h.out ha).2.2.2.2.thr 0 ha
                  rw [Nat.zero_mul, Nat.add_zero] at hr0 ht0
                  have g1c : G1 < w'.heap.size := (L1h.out ha).2.2.2.2.lt ha
                  obtain ⟨cd0, cd1, cd2, cd3, cd4, cd5, cd6, cd7, cd8, cd9⟩ := rc_cells hr0
                  obtain ⟨fd0, fd1, fd2, fd3, fd4, fd5, fd6, fd7, fd8, fd9⟩ := rc_frozen ht0
                  have hb7 := rangeAt_chg HD.out Z7.out (by intro e; simp only [AtV, Value.ownBlock, Option.some.injEq] at e; omega)
                  obtain ⟨cb0, cb1, cb2, cb3, cb4, cb5, cb6, cb7, cb8, cb9⟩ := rc_cells hb7
                  clear hr0 ht0 hb7
                  go_wp2_with (first | (go_at_call 163; (with_reducible refine (k163 (fo 0).2 oo0.b nx _).mono ?_); rintro e w' ⟨rfl, dd, oo, rfl⟩))
                  rw [setCells_ad]
                  go_roundw
                  case rel => exact ⟨a, b - 1, m + 1, _, _, c1, c2 - 1, cap', o1, o2 + 10, G', _, tl fo, snoc m h ((fi 0).1, (fo 0).1 - 1), rfl, rfl, rfl, by omega, Chg.over (Chg.over X.out.1 HWf.out (by have := X.out.2.2.2.1; omega)) (show Chg (fun k => k = G1) w' _ by (repeat (with_reducible first | refine Chg.plus ?_ _ _ | refine Chg.alloc ?_ _ | refine Chg.drew ?_ | (refine Chg.setCells G1 _ _ ?_ (fun _ => rfl)) | exact Chg.refl _ _))) G1h.out.1, (L1h.out.set0 ha _).chg (F := fun _ => False) (by (repeat (with_reducible first | refine Chg.plus ?_ _ _ | exact Chg.refl _ _))) (fun _ _ => id), ((X.out.2.2.1.chg HWf.out (fun p q e => by have := X.out.2.2.2.1; omega)).chg (F := fun k => k = G1) (by (repeat (with_reducible first | refine Chg.plus ?_ _ _ | (refine Chg.setCells G1 _ _ ?_ (fun _ => rfl)) | exact Chg.refl _ _))) (fun p q e => by have := G1h.out.2; omega)).tl, hMb', HO.out.chg (F := fun k => k = G1) (by (repeat (with_reducible first | refine Chg.plus ?_ _ _ | (refine Chg.setCells G1 _ _ ?_ (fun _ => rfl)) | exact Chg.refl _ _))) (by have := G1h.out.2; omega), X.out.2.2.2.2.2.mid ha hb (by simp only [decide_eq_false_iff_not, decide_eq_true_eq] at x4; omega) (by simp only [decide_eq_false_iff_not, decide_eq_true_eq] at x4; omega)⟩
                  case measure => simp [lenOf]; omega
              · go_wp2_with (first | (go_at_call 107; (with_reducible refine (k107 (fo 0) oo0 _).mono ?_); rintro e w' ⟨rfl, dd, oo, rfl⟩) | (go_at_call 107; (with_reducible refine (k107 (fi 0) oi0 _).mono ?_); rintro e w' ⟨rfl, dd, oo, rfl⟩) | (go_at_call 160; (with_reducible refine (k160 (fo 0) (fi 0) oo0 oi0 _ x1 _).mono ?_); rintro e w' ⟨rfl, dd, oo, rfl⟩) | (go_at_call 160; (with_reducible refine (k160 (fi 0) (fo 0) oi0 oo0 _ x2 _).mono ?_); rintro e w' ⟨rfl, dd, oo, rfl⟩) | (go_at_call 104; (with_reducible refine (k104 (fi 0) (fo 0) oi0 oo0 _ x3 _).mono ?_); rintro e w' ⟨rfl, dd, oo, rfl⟩))
                go_roundw
                case rel => exact ⟨a - 1, b, m, _, _, c1 - 1, c2, cm, o1 + 10, o2, Gm, tl fi, fo, h, rfl, rfl, rfl, by omega, X.out.1.trans (Chg.mono (F := fun _ => False) (by (repeat (with_reducible first | refine Chg.plus ?_ _ _ | refine Chg.alloc ?_ _ | refine Chg.drew ?_ | (refine Chg.setCells G1 _ _ ?_ (fun _ => rfl)) | exact Chg.of_plus Z1.out | exact Chg.refl _ _))) (fun _ _ q => q.elim)), (X.out.2.1.chg (F := fun _ => False) (by (repeat (with_reducible first | refine Chg.plus ?_ _ _ | refine Chg.alloc ?_ _ | refine Chg.drew ?_ | (refine Chg.setCells G1 _ _ ?_ (fun _ => rfl)) | exact Chg.of_plus Z1.out | exact Chg.refl _ _))) (fun _ _ => id)).tl, X.out.2.2.1.chg (F := fun _ => False) (by (repeat (with_reducible first | refine Chg.plus ?_ _ _ | refine Chg.alloc ?_ _ | refine Chg.drew ?_ | (refine Chg.setCells G1 _ _ ?_ (fun _ => rfl)) | exact Chg.of_plus Z1.out | exact Chg.refl _ _))) (fun _ _ => id), X.out.2.2.2.1, X.out.2.2.2.2.1.chg (F := fun _ => False) (by (repeat (with_reducible first | refine Chg.plus ?_ _ _ | refine Chg.alloc ?_ _ | refine Chg.drew ?_ | (refine Chg.setCells G1 _ _ ?_ (fun _ => rfl)) | exact Chg.of_plus Z1.out | exact Chg.refl _ _))) id, X.out.2.2.2.2.2.inGone ha hb (by simp only [decide_eq_false_iff_not, decide_eq_true_eq] at x3; omega) (by simp only [decide_eq_false_iff_not, decide_eq_true_eq] at x3; omega)⟩
                case measure => simp [lenOf]; omega
            · go_wp2_with (first | (go_at_call 107; (with_reducible refine (k107 (fo 0) oo0 _).mono ?_); rintro e w' ⟨rfl, dd, oo, rfl⟩) | (go_at_call 107; (with_reducible refine (k107 (fi 0) oi0 _).mono ?_); rintro e w' ⟨rfl, dd, oo, rfl⟩) | (go_at_call 160; (with_reducible refine (k160 (fo 0) (fi 0) oo0 oi0 _ x1 _).mono ?_); rintro e w' ⟨rfl, dd, oo, rfl⟩) | (go_at_call 160; (with_reducible refine (k160 (fi 0) (fo 0) oi0 oo0 _ x2 _).mono ?_); rintro e w' ⟨rfl, dd, oo, rfl⟩) | (at_builtin; refine app80 rfl _ _ rfl (.slice (some ⟨Gm, 0, none⟩) m cm) m h rfl ?hown _ 0 1 1 (fun _ => fi 0) rfl ?hr ?sz ?_))
              case hown => exact .inr ⟨Gm, cm, rfl, X.out.2.2.2.2.1.chg (F := fun _ => False) (by (repeat (with_reducible first | refine Chg.plus ?_ _ _ | refine Chg.alloc ?_ _ | refine Chg.drew ?_ | (refine Chg.setCells G1 _ _ ?_ (fun _ => rfl)) | exact Chg.of_plus Z1.out | exact Chg.refl _ _))) id⟩
              case hr =>
                intro i1 hi1
                rw [show i1 = 0 by omega]
                exact rangeAt_new _ _ (fi 0) (by simp)
              case sz => omega
              intro v' w' hO' hg' hat
              have HWf : Hid (Chg (fun k => k = Gm) wr w') := Chg.grown (F := fun k => k = Gm) (by (repeat (with_reducible first | refine Chg.plus ?_ _ _ | refine Chg.alloc ?_ _ | refine Chg.drew ?_ | (refine Chg.setCells G1 _ _ ?_ (fun _ => rfl)) | exact Chg.of_plus Z1.out | exact Chg.refl _ _))) hg' (fun k hk _ => by simp only [Value.ownBlock, Option.some.injEq] at hk; exact hk.symm)
              rcases hO' with ⟨_, h0⟩ | ⟨G', cap', rfl, hO'⟩
              · omega
              have hwz : wr.heap.size ≤ wc.heap.size := (Chg.of_plus (F := fun _ => False) Z1.out).size
              have hG' : Gm = G' ∨ wr.heap.size ≤ G' := by
                rcases hat with hat | hat
                · simp only [Value.ownBlock, Option.some.injEq] at hat; exact .inl hat.symm
                · simp only [Value.ownBlock, Option.some.injEq] at hat; rw [hat]; first | omega | (simp; omega)
              have hMbw : Gm < wr.heap.size := X.out.2.2.2.2.1.lt
              have hMb' : Mb ≤ G' := by have := X.out.2.2.2.1; omega
              clear hat hg'
              have HO : Hid (OwnR w' G' (m + 1) cap' (snoc m h (fi 0))) := hO'
              clear hO'
              go_wp2_with fail
              go_roundw
              case rel => exact ⟨a - 1, b, m + 1, _, _, c1 - 1, c2, cap', o1 + 10, o2, G', tl fi, fo, snoc m h (fi 0), rfl, rfl, rfl, by omega, Chg.over X.out.1 HWf.out (by have := X.out.2.2.2.1; omega), (X.out.2.1.chg HWf.out (fun p q e => by have := X.out.2.2.2.1; omega)).tl, X.out.2.2.1.chg HWf.out (fun p q e => by have := X.out.2.2.2.1; omega), hMb', HO.out, X.out.2.2.2.2.2.inKeep ha hb (by simp only [decide_eq_false_iff_not, decide_eq_true_eq] at x2; omega)⟩
              case measure => simp [lenOf]; omega
          · go_wp2_with (first | (go_at_call 107; (with_reducible refine (k107 (fo 0) oo0 _).mono ?_); rintro e w' ⟨rfl, dd, oo, rfl⟩) | (go_at_call 107; (with_reducible refine (k107 (fi 0) oi0 _).mono ?_); rintro e w' ⟨rfl, dd, oo, rfl⟩) | (go_at_call 160; (with_reducible refine (k160 (fo 0) (fi 0) oo0 oi0 _ x1 _).mono ?_); rintro e w' ⟨rfl, dd, oo, rfl⟩))
            go_roundw
            case rel => exact ⟨a, b - 1, m, _, _, c1, c2 - 1, cm, o1, o2 + 10, Gm, fi, tl fo, h, rfl, rfl, rfl, by omega, X.out.1.trans (Chg.mono (F := fun _ => False) (by (repeat (with_reducible first | refine Chg.plus ?_ _ _ | refine Chg.alloc ?_ _ | refine Chg.drew ?_ | (refine Chg.setCells G1 _ _ ?_ (fun _ => rfl)) | exact Chg.of_plus Z1.out | exact Chg.refl _ _))) (fun _ _ q => q.elim)), X.out.2.1.chg (F := fun _ => False) (by (repeat (with_reducible first | refine Chg.plus ?_ _ _ | refine Chg.alloc ?_ _ | refine Chg.drew ?_ | (refine Chg.setCells G1 _ _ ?_ (fun _ => rfl)) | exact Chg.of_plus Z1.out | exact Chg.refl _ _))) (fun _ _ => id), (X.out.2.2.1.chg (F := fun _ => False) (by (repeat (with_reducible first | refine Chg.plus ?_ _ _ | refine Chg.alloc ?_ _ | refine Chg.drew ?_ | (refine Chg.setCells G1 _ _ ?_ (fun _ => rfl)) | exact Chg.of_plus Z1.out | exact Chg.refl _ _))) (fun _ _ => id)).tl, X.out.2.2.2.1, X.out.2.2.2.2.1.chg (F := fun _ => False) (by (repeat (with_reducible first | refine Chg.plus ?_ _ _ | refine Chg.alloc ?_ _ | refine Chg.drew ?_ | (refine Chg.setCells G1 _ _ ?_ (fun _ => rfl)) | exact Chg.of_plus Z1.out | exact Chg.refl _ _))) id, X.out.2.2.2.2.2.outFirst ha hb (by simp only [decide_eq_false_iff_not, decide_eq_true_eq] at x1; omega)⟩
            case measure => simp [lenOf]; omega
      · have hb0 : b = 0 := by omega
        subst hb0
        obtain ⟨rfl, ya, yb, yc, yd⟩ := X.out.2.1 ha
        have ydh : Hid _ := yd.rng
        clear yb yc yd
        go_wp2_with (first | (at_builtin; refine app80 rfl _ _ rfl (.slice (some ⟨Gm, 0, none⟩) m cm) m h rfl ?hown G1 o1 a c1 fi rfl ?hr ?sz ?_))
        case hown => exact .inr ⟨Gm, cm, rfl, X.out.2.2.2.2.1⟩
        case hr => exact ydh.out
        case sz => omega
        intro v' w' hO' hg' hat
        rcases hO' with ⟨_, h0⟩ | ⟨G', cap', rfl, hO'⟩
        · omega
        have HWf : Hid (Chg (fun k => k = Gm) wr w') := (Chg.refl _ wr).grown hg' (fun k hk _ => by simp only [Value.ownBlock, Option.some.injEq] at hk; exact hk.symm)
        have hMbw : Gm < wr.heap.size := X.out.2.2.2.2.1.lt
        have hMb := X.out.2.2.2.1
        have HC : Hid (Chg (fun k => vi.ownBlock = some k ∨ vo.ownBlock = some k) w w') := Chg.over X.out.1 HWf.out (by omega)
        have HF : Hid (∀ k, (Value.slice (some ⟨G', 0, none⟩) (m + a) cap').ownBlock = some k → w.heap.size ≤ k) := fun k e => by
          have := X.out.1.size
          rcases hat with hat | hat
          · rw [hat] at e; simp only [Value.ownBlock, Option.some.injEq] at e; omega
          · rw [hat] at e; simp only [Option.some.injEq] at e; omega
        have HO : Hid (OwnV w' (.slice (some ⟨G', 0, none⟩) (m + a) cap') (m + a) (fun j => if j < m then h j else fi (j - m))) := .inr ⟨G', cap', rfl, hO'⟩
        clear hO' hat hg'
        have hB' : w'.heap[B]? = some (.cells #[vi, vo, .slice none 0 0] 129 (0, 0)) := (HC.out.block B hBlt (fun q => q.elim NB1.out NB2.out)).trans HH.out.blk
        obtain ⟨eB0, eB1, eB2, gB0, gB1, gB2⟩ := blkB hB'
        have hBl' : B < w'.heap.size := (Array.getElem?_eq_some_iff.1 hB').1
        clear hB'
        go_wp2_with fail
        go_end0
        exact ⟨rfl, .slice (some ⟨G', 0, none⟩) (m + a) cap', m + a, _, bld_fin HH.out HC.out (.slice (some ⟨G', 0, none⟩) (m + a) cap') (m + a) _ HO.out HF.out (X.out.2.2.2.2.2.done (.inr rfl)).1 (fun k => ((X.out.2.2.2.2.2.done (.inr rfl)).2 k).symm) (by omega)⟩
    · have ha0 : a = 0 := by omega
      subst ha0
      have hB' : wr.heap[B]? = some (.cells #[vi, vo, .slice none 0 0] 129 (0, 0)) := (X.out.1.block B hBlt (fun q => q.elim NB1.out NB2.out)).trans HH.out.blk
      obtain ⟨eB0, eB1, eB2, gB0, gB1, gB2⟩ := blkB hB'
      have hBl' : B < wr.heap.size := (Array.getElem?_eq_some_iff.1 hB').1
      clear hB'
      go_wp2_with fail
      go_end0
      exact ⟨rfl, .slice (some ⟨Gm, 0, none⟩) m cm, m, h, bld_fin HH.out X.out.1 (.slice (some ⟨Gm, 0, none⟩) m cm) m h (.inr ⟨Gm, cm, rfl, X.out.2.2.2.2.1⟩) (fun k e => by simp only [Value.ownBlock, Option.some.injEq] at e; have := X.out.2.2.2.1; omega) X.out.2.2.2.2.2.ch (fun k => by rw [X.out.2.2.2.2.2.mem k]; exact ⟨.inl, fun q => q.elim id (fun ⟨⟨i, hi, _⟩, _⟩ => by omega)⟩) (by omega)⟩
end Go.Proofs.YtmoabfpdlbngeaaGreatDoor
end
