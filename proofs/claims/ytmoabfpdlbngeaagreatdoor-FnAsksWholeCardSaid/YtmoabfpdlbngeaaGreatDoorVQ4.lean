/-
  Part of the proofs on the laws of pub-addresssets: joined texts (Q4, Q5).
-/
import Derived.Test.YtmoabfpdlbngeaaGreatDoorVQ3
section
namespace Go.Proofs.YtmoabfpdlbngeaaGreatDoor
open Go.RowKit
set_option maxHeartbeats 400000
set_option linter.unusedVariables false
set_option linter.unusedSimpArgs false
/-- The chains of the first i ranges, one behind the other: M prefixes, told by F. -/
inductive ChL (f : Nat → Nat × Nat) : Nat → Nat → (Nat → Nat × Nat) → Prop
  | nil (F : Nat → Nat × Nat) : ChL f 0 0 F
  | snoc {i M m : Nat} {F g : Nat → Nat × Nat} (H : ChL f i M F) (C : ChV (vK (f i).1) (vK (f i).2) m g) : ChL f (i + 1) (M + m) (appF M F (fun j => pfV (sK (f i).1) (g j)))
theorem ChL.uniq {f : Nat → Nat × Nat} {i M : Nat} {F : Nat → Nat × Nat} (H : ChL f i M F) : ∀ {M' : Nat} {F' : Nat → Nat × Nat}, ChL f i M' F' → M = M' ∧ ∀ j, j < M → F j = F' j := by
  induction H with
  | nil F =>
    intro M' F' H'
    cases H'
    exact ⟨rfl, fun j hj => by omega⟩
  | snoc H C ih =>
    intro M' F' H'
    cases H' with
    | snoc H2 C2 =>
      obtain ⟨e1, e2⟩ := ih H2
      obtain ⟨e3, e4⟩ := C.uniq C2
      subst e1 e3
      refine ⟨rfl, fun j hj => ?_⟩
      unfold appF
      split
      · exact e2 j (by assumption)
      · rename_i hjM
        exact congrArg (pfV _) (e4 _ (by omega))
theorem ChL.congr {f f' : Nat → Nat × Nat} {i M : Nat} {F : Nat → Nat × Nat} (H : ChL f i M F) (e : ∀ j, j < i → f j = f' j) : ChL f' i M F := by
  induction H with
  | nil F => exact .nil F
  | snoc H C ih =>
    rename_i i M m F g
    have e1 := e i (by omega)
    have := ChL.snoc (ih fun j hj => e j (by omega)) (m := m) (g := g) (by rw [← e1]; exact C)
    rwa [← e1] at this
/-- Each prefix of such a chain is one. -/
def okP (a : Nat × Nat) : Prop := okK a.1 ∧ a.2 ≤ lenK a.1 ∧ a.2 ≤ 128
theorem pfV_ok {r : Nat × Nat} (o : okR r) {m : Nat} {g : Nat → Nat × Nat} (C : ChV (vK r.1) (vK r.2) m g) (j : Nat) (hj : j < m) : okP (pfV (sK r.1) (g j)) := by
  obtain ⟨h1, h2, h3⟩ := vK_range r o
  have ge := C.ge j hj
  have ft := C.fit j hj
  have hp := Nat.two_pow_pos (g j).2
  have h128 : (2 : Nat) ^ 128 = 340282366920938463463374607431768211456 := rfl
  rw [h128] at h2
  cases hs : sK r.1
  · obtain ⟨q1, q2⟩ := h3 hs
    show okK ((g j).1 % 4294967296) ∧ 32 - (g j).2 ≤ lenK ((g j).1 % 4294967296) ∧ 32 - (g j).2 ≤ 128
    have : (g j).1 % 4294967296 < 4294967296 := Nat.mod_lt _ (by omega)
    refine ⟨.inl this, ?_, by omega⟩
    unfold lenK
    rw [if_neg (by omega)]; omega
  · show okK (8589934592 + (g j).1) ∧ 128 - (g j).2 ≤ lenK (8589934592 + (g j).1) ∧ 128 - (g j).2 ≤ 128
    refine ⟨.inr (by omega), ?_, by omega⟩
    unfold lenK
    rw [if_pos (by omega)]; omega
theorem ChL.ok {f : Nat → Nat × Nat} {i M : Nat} {F : Nat → Nat × Nat} (H : ChL f i M F) (o : ∀ j, j < i → okR (f j)) : ∀ j, j < M → okP (F j) := by
  induction H with
  | nil F => intro j hj; omega
  | snoc H C ih =>
    rename_i i M m F g
    intro j hj
    unfold appF
    by_cases h : j < M
    · rw [if_pos h]; exact ih (fun j hj => o j (by omega)) j h
    · rw [if_neg h]; exact pfV_ok (o i (by omega)) C (j - M) (by omega)
/-- What Prefixes hands back. -/
def PxP (w : World) (m : Nat) (h : Nat → Nat × Nat) (e : Ending) (w' : World) : Prop := ∃ p M c F, e = .returned (.slice p M c) ∧ Hid (Chg (fun _ => False) w w' ∧ OwnDV layP 93 w' (.slice p M c) M F ∧ ChL h m M F ∧ M ≤ 257 * m)
set_option maxHeartbeats 2000000 in
theorem c35 (P : Nat) (v : Value) (m : Nat) (h : Nat → Nat × Nat) (hm : m ≤ 20000000) (w : World) (K : SetAt w P v m h) : Calls Tryz.prog 35 #[.pointer (some ⟨P, 0, none⟩)] w (PxP w m h) := by
  obtain ⟨p, c, rfl⟩ := K.own.form
  have HK : Hid _ := K
  have cP := K.cell
  have hP := K.lt
  clear K
  go_enter Tryz.func35, Tryz.ntmps35

  go_wp2_with (at_make; refine makeD rfl _ _ 84 48 infoP under84 (by omega) rfl m rfl rfl (by omega) h ?_)
  intro w3 P3 hlt3 hG
  obtain ⟨d3, o3, rfl⟩ := P3
  have HG : Hid _ := hG
  clear hG
  go_wp2_with fail
  go_loopw [3, 17] (fun t3 t17 wr => ∃ (i M : Nat) (p0 : Option Addr) (c0 : Nat) (F : Nat → Nat × Nat), t17 = .int .i64 i ∧ t3 = .slice p0 M c0 ∧ i ≤ m ∧ M ≤ 257 * i ∧ Hid (Chg (fun _ => False) w wr ∧ OwnDV layP 93 wr (.slice p0 M c0) M F ∧ (∀ k, (Value.slice p0 M c0).ownBlock = some k → w.heap.size ≤ k) ∧ ChL h i M F))
    (fun _ t17 _ => m - (intOf t17).toNat)
  case atStart => exact ⟨0, 0, _, m, h, rfl, rfl, Nat.zero_le _, by omega, (Chg.refl _ w).plus _ _, HG.out, fun k e => by simp only [Value.ownBlock, Option.some.injEq] at e; omega, .nil h⟩
  case round =>
    clear HG cP hP hlt3
    obtain ⟨i, M, p0, c0, F, rfl, rfl, hi, hM, X⟩ := hrel
    by_cases hlt : i < m
    · have hrow : ∃ G, p = some ⟨G, 0, none⟩ ∧ wr.rangeAt G (i * 10) (rcL (h i)) ∧ m ≤ c := by
        rcases HK.out.own.chg X.out.1 (fun _ _ => id) with ⟨_, z⟩ | ⟨G, cap, e, H⟩
        · omega
        · simp only [Value.slice.injEq, true_and] at e
          have := H.row i hlt
          rw [Nat.zero_add] at this
          exact ⟨G, e.1, this, by rw [e.2]; exact H.le⟩
      obtain ⟨G, rfl, ra, la⟩ := hrow
      obtain ⟨ca0, ca1, ca2, ca3, ca4, ca5, ca6, ca7, ca8, ca9⟩ := rc_cells ra
      have hG : G < wr.heap.size := World.block_lt_of_cell? _ _ ca0
      have ok : okR (h i) := HK.out.can.ok i hlt
      clear ra
      go_wp2_with fail
      refine (c62 (h i) ok F _).mono ?_
      rintro e w2 ⟨v2, m2, g2, rfl, Y⟩
      obtain ⟨p2, c2, rfl, _⟩ := Y.out.2.1.form
      have HC1 : Hid (Chg (fun _ => False) wr w2) := Chg.trans (by (repeat (with_reducible first | exact Chg.refl _ _ | refine Chg.plus ?_ _ _ | refine Chg.alloc ?_ _ | refine Chg.drew ?_))) (chg_nil Y.out.1)
      have HR2 : Hid (Rd layP w2 (.slice p2 (0 + m2) c2) (0 + m2) (fun j => pfV (sK (h i).1) (g2 j))) := by have := Y.out.2.1.rd; rwa [appF_zero] at this
      have HCH := Y.out.2.2.1
      have hb2 : m2 ≤ 257 := Nat.le_trans Y.out.2.2.2.1 (bdV_le 128 _ _)
      have HCV : Hid (ChV (vK (h i).1) (vK (h i).2) m2 g2) := HCH
      clear Y HCH ca0 ca1 ca2 ca3 ca4 ca5 ca6 ca7 ca8 ca9
      go_wp2_with (at_builtin; refine appDL rfl (.tmp 21) (.tmp 23) 84 48 infoP under84 (by omega) rfl (.slice p0 M c0) M F rfl (OwnDV.chg X.out.2.1 (F := fun _ => False) (HC1.out.trans (by (repeat (with_reducible first | exact Chg.refl _ _ | refine Chg.plus ?_ _ _ | refine Chg.alloc ?_ _ | refine Chg.drew ?_)))) (fun _ _ => id)) m2 (fun j => pfV (sK (h i).1) (g2 j)) ?hr ?sz ?_)
      case hr =>
        have := HR2.out
        rw [Nat.zero_add] at this
        exact this.chg0 (by (repeat (with_reducible first | exact Chg.refl _ _ | refine Chg.plus ?_ _ _ | refine Chg.alloc ?_ _ | refine Chg.drew ?_)))
      case sz => omega
      intro p3 c3 w4 hO hC hat
      have HZ : Hid (Chg (fun _ => False) w w4 ∧ OwnDV layP 93 w4 (.slice p3 (M + m2) c3) (M + m2) (appF M F (fun j => pfV (sK (h i).1) (g2 j))) ∧ (∀ k, (Value.slice p3 (M + m2) c3).ownBlock = some k → w.heap.size ≤ k) ∧ ChL h (i + 1) (M + m2) (appF M F (fun j => pfV (sK (h i).1) (g2 j)))) := by
        refine ⟨Chg.app ((X.out.1.trans HC1.out).trans (by (repeat (with_reducible first | exact Chg.refl _ _ | refine Chg.plus ?_ _ _ | refine Chg.alloc ?_ _ | refine Chg.drew ?_)))) hC X.out.2.2.1, hO.out, fun k e => ?_, X.out.2.2.2.snoc HCV.out⟩
        rcases hat.out with q | q
        · exact X.out.2.2.1 k (by rw [← q]; exact e)
        · rw [q] at e
          have := X.out.1.size
          have := HC1.out.size
          simp only [Option.some.injEq] at e
          omega
      clear hO hC hat
      go_wp2_with fail
      go_roundw
      case rel => exact ⟨i + 1, M + m2, p3, c3, _, by go_num, rfl, by omega, by omega, HZ.out⟩
      case measure => simp [intOf]; omega
    · obtain rfl : i = m := by omega
      go_wp2_with fail
      go_ret
      exact ⟨_, M, _, F, rfl, X.out.1, X.out.2.1, X.out.2.2.2, hM⟩
end Go.Proofs.YtmoabfpdlbngeaaGreatDoor
end

section
namespace Go.Proofs.YtmoabfpdlbngeaaGreatDoor
open Go.RowKit
set_option maxHeartbeats 400000
set_option linter.unusedVariables false
set_option linter.unusedSimpArgs false
/-- Prefixes of ours, as rows. -/
def piL (a : Nat × Nat) : List Value := [.bool (sK a.1), .int .u64 (hK a.1), .int .u64 (mK a.1), .int .i64 ((a.2 : Nat) : Int)]
def layI : Lay (Nat × Nat) := ⟨piL, 4, fun _ => rfl, fun a u hu => by
  simp only [piL, List.mem_cons, List.not_mem_nil, or_false] at hu
  rcases hu with rfl | rfl | rfl | rfl <;> simp [Value.oneCell'], by omega⟩
theorem infoI : InfoD layI 47 32 := InfoD.mk (c := 4) rfl (by kernel_rfl)
theorem under26 : Tryz.prog.underlying 26 = some (.slice 47) := by kernel_rfl
theorem Rd.newPi {W : World} {B : Nat} (a : Nat × Nat) (hB : B = W.heap.size) : Rd layI (W.alloc (.cells #[.bool (sK a.1), .int .u64 (hK a.1), .int .u64 (mK a.1), .int .i64 ((a.2 : Nat) : Int)] 47)) (.slice (some ⟨B, 0, none⟩) 1 1) 1 (fun _ => a) := by
  subst hB
  exact Rd.new (D := layI) (E := 47) W _ a rfl
def PiP (w : World) (M : Nat) (F : Nat → Nat × Nat) (e : Ending) (w' : World) : Prop := ∃ p c, e = .returned (.slice p M c) ∧ Hid (Chg (fun _ => False) w w' ∧ OwnDV layI 47 w' (.slice p M c) M F)
set_option maxRecDepth 100000 in
set_option maxHeartbeats 4000000 in
theorem c34 (v0 : Value) (M : Nat) (F : Nat → Nat × Nat) (hM : M ≤ 5200000000) (w : World) (H : Rd layP w v0 M F) (ok : ∀ j, j < M → okP (F j)) : Calls Tryz.prog 34 #[v0] w (PiP w M F) := by
  obtain ⟨p, c, rfl, hMc, hr⟩ := H
  have HR : Hid _ := hr
  have HO : Hid _ := ok
  clear hr ok
  go_enter Tryz.func34, Tryz.ntmps34

  go_wp2_with fail
  go_loopw [3, 8] (fun t3 t8 wr => ∃ (i : Nat) (p0 : Option Addr) (c0 : Nat), t8 = .int .i64 i ∧ t3 = .slice p0 i c0 ∧ i ≤ M ∧ Hid (Chg (fun _ => False) w wr ∧ OwnDV layI 47 wr (.slice p0 i c0) i F ∧ ∀ k, (Value.slice p0 i c0).ownBlock = some k → w.heap.size ≤ k))
    (fun _ t8 _ => M - (intOf t8).toNat)
  case atStart => exact ⟨0, none, 0, rfl, rfl, Nat.zero_le _, .refl _ _, .nil _, fun k e => by simp [Value.ownBlock] at e⟩
  case round =>
    obtain ⟨i, p0, c0, rfl, rfl, hi, X⟩ := hrel
    by_cases hlt : i < M
    · obtain ⟨G, o, rfl, hrow⟩ := HR.out (by omega)
      have ra : wr.rangeAt G (o + i * 6) (pfL (F i).1 (F i).2) := rangeAt_chg X.out.1 (hrow i hlt) id
      obtain ⟨ca0, ca1, ca2, ca3, ca4, ca5⟩ := pf_cells ra
      have hG : G < wr.heap.size := World.block_lt_of_cell? _ _ ca0
      have OK : Hid (okP (F i)) := HO.out i hlt
      have ok1 : okK (F i).1 := OK.out.1
      have ok2 : (F i).2 ≤ 128 := OK.out.2.2
      clear hrow ra
      go_upto_region 4 with fail
      go_cut [5] from 10 to 20 (fun t5 wx => t5 = .pointer (some ⟨wr.heap.size, 0, none⟩) ∧ Hid (Chg (fun _ => False) wr wx ∧ wx.rangeAt wr.heap.size 0 (pfL (F i).1 (F i).2)))
      case first =>
        go_wp2_with fail
        go_meet
        case rel => exact ⟨rfl, by (repeat (with_reducible first | refine Chg.plus ?_ _ _ | refine Chg.alloc ?_ _ | refine Chg.drew ?_ | exact Chg.refl _ _)), newPf wr _ _ _ rfl⟩
      case rest =>
        obtain ⟨rfl, Z⟩ := hcut
        have HW : Hid (Chg (fun _ => False) wr wc) := Z.out.1
        have hlo : ∀ k, (Value.slice p0 i c0).ownBlock = some k → k < wr.heap.size := fun k e => X.out.2.1.lt e
        have ea : ∀ w', Chg (AtV (.slice p0 i c0)) wc w' → w'.rangeAt wr.heap.size 0 (pfL (F i).1 (F i).2) := fun w' q => rangeAt_chg q Z.out.2 (fun e => by have := hlo _ e; omega)
        have ea0 : ∀ w', Chg (AtV (.slice p0 i c0)) wc w' → w'.cell? ⟨wr.heap.size, 0, none⟩ = some (.int .u64 (hK (F i).1)) := fun w' q => (pf_cells (ea w' q)).1
        have ea1 : ∀ w', Chg (AtV (.slice p0 i c0)) wc w' → w'.cell? ⟨wr.heap.size, 1, none⟩ = some (.int .u64 (lK (F i).1)) := fun w' q => (pf_cells (ea w' q)).2.1
        have ea2 : ∀ w', Chg (AtV (.slice p0 i c0)) wc w' → w'.cell? ⟨wr.heap.size, 2, none⟩ = some (.bool true) := fun w' q => (pf_cells (ea w' q)).2.2.1
        have ea3 : ∀ w', Chg (AtV (.slice p0 i c0)) wc w' → w'.cell? ⟨wr.heap.size, 3, none⟩ = some (.bool (sK (F i).1)) := fun w' q => (pf_cells (ea w' q)).2.2.2.1
        have ea4 : ∀ w', Chg (AtV (.slice p0 i c0)) wc w' → w'.cell? ⟨wr.heap.size, 4, none⟩ = some (.string ⟨#[]⟩) := fun w' q => (pf_cells (ea w' q)).2.2.2.2.1
        have ea5 : ∀ w', Chg (AtV (.slice p0 i c0)) wc w' → w'.cell? ⟨wr.heap.size, 5, none⟩ = some (.int .u8 (((F i).2 : Nat) + 1 : Int)) := fun w' q => (pf_cells (ea w' q)).2.2.2.2.2
        have hOwn : Hid (OwnDV layI 47 wc (.slice p0 i c0) i F) := X.out.2.1.chg HW.out (fun _ _ => id)
        clear Z hlo ea ca0 ca1 ca2 ca3 ca4 ca5 hG
        go_upto_region 5 with fail
        go_region_held3 (fun w' => Chg (AtV (.slice p0 i c0)) wc w') (solve | (with_reducible assumption) | (repeat (with_reducible first | exact Chg.refl _ _ | refine Chg.plus ?_ _ _ | refine Chg.alloc ?_ _ | refine Chg.drew ?_ | assumption)) | (refine Chg.trans ?_ (by with_reducible assumption); repeat (with_reducible first | exact Chg.refl _ _ | refine Chg.plus ?_ _ _ | refine Chg.alloc ?_ _ | refine Chg.drew ?_ | assumption))) (first | (go_at_call 43; (with_reducible refine (k43 (F i).1 (F i).2 _).mono ?_); rintro e w' ⟨rfl, dd, oo, rfl⟩) | (go_at_call 31; (with_reducible refine (k31 (F i).1 ok1 _).mono ?_); rintro e w' ⟨rfl, dd, oo, rfl⟩) | (go_at_call 44; (with_reducible refine (k44 (F i).1 (F i).2 ok2 _).mono ?_); rintro e w' ⟨rfl, dd, oo, rfl⟩) | (refine stepDL rfl _ _ 26 32 infoI under26 (by omega) rfl (.slice p0 i c0) i F rfl ?hown 1 (fun _ => F i) ?hr ?sz ?_; (case hown => exact OwnDV.chg hOwn.out (F := fun _ => False) (by (repeat (with_reducible first | exact Chg.refl _ _ | refine Chg.plus ?_ _ _ | refine Chg.alloc ?_ _ | refine Chg.drew ?_))) (fun _ _ => id)); (case hr => exact Rd.newPi (F i) (by simp)); (case sz => omega); intro p3 c3 w' hO' hC' hat))
        have HZ : Hid (Chg (fun _ => False) w w' ∧ OwnDV layI 47 w' (.slice p3 (i + 1) c3) (i + 1) F ∧ ∀ k, (Value.slice p3 (i + 1) c3).ownBlock = some k → w.heap.size ≤ k) := by
          refine ⟨Chg.app ((X.out.1.trans HW.out).trans (by (repeat (with_reducible first | exact Chg.refl _ _ | refine Chg.plus ?_ _ _ | refine Chg.alloc ?_ _ | refine Chg.drew ?_)))) hC' X.out.2.2, OwnDV.congr hO'.out (fun j hj => ?_), fun k e => ?_⟩
          · unfold appF
            split
            · rfl
            · rw [show j = i by omega]
          · rcases hat.out with q | q
            · exact X.out.2.2 k (by rw [← q]; exact e)
            · rw [q] at e
              have := X.out.1.size
              have := HW.out.size
              simp at e
              omega
        clear hO' hC' hat ea0 ea1 ea2 ea3 ea4 ea5
        go_wp2_with fail
        go_roundw
        case rel => exact ⟨i + 1, p3, c3, by go_num, rfl, by omega, HZ.out⟩
        case measure => simp [intOf]; omega
    · obtain rfl : i = M := by omega
      go_wp2_with fail
      go_ret
      exact ⟨_, _, rfl, X.out.1, X.out.2.1⟩
end Go.Proofs.YtmoabfpdlbngeaaGreatDoor
end
