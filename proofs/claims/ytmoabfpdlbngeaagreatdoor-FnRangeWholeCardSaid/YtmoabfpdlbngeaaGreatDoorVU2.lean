/-
  Part of the proofs on the laws of pub-addresssets: joined texts (U2, U3, U4).
-/
import Derived.Test.YtmoabfpdlbngeaaGreatDoorVT9
section
namespace Go.Proofs.YtmoabfpdlbngeaaGreatDoor
open Go.RowKit
set_option maxHeartbeats 400000
set_option linter.unusedVariables false
set_option linter.unusedSimpArgs false
theorem under22 : Tryz.prog.underlying 22 = some (.slice 5) := by kernel_rfl
theorem infoB : InfoD layB 5 1 := InfoD.mk (c := 1) rfl (by kernel_rfl)
/-- An own row of bytes that reads l. -/
def Txt (w : World) (v : Value) (l : List Nat) : Prop := OwnDV layB 5 w v l.length (fun i => l.getD i 0)
theorem getD_app {l l2 : List Nat} (j : Nat) : (l ++ l2).getD j 0 = if j < l.length then l.getD j 0 else l2.getD (j - l.length) 0 := by
  simp only [List.getD_eq_getElem?_getD, List.getElem?_append]
  split <;> rfl
theorem Txt.app {w : World} {v : Value} {l l2 : List Nat} {f : Nat → Nat} (H : OwnDV layB 5 w v (l.length + l2.length) (appF l.length (fun i => l.getD i 0) f)) (hf : ∀ i, i < l2.length → f i = l2.getD i 0) : Txt w v (l ++ l2) := by
  unfold Txt
  rw [List.length_append]
  refine OwnDV.congr H (fun j hj => ?_)
  rw [getD_app]
  unfold appF
  by_cases q : j < l.length
  · rw [if_pos q, if_pos q]
  · rw [if_neg q, if_neg q, hf _ (by omega)]
theorem Txt.chg {F : Nat → Prop} {w w' : World} {v : Value} {l : List Nat} (H : Txt w v l) (C : Chg F w w') (h : ∀ k, v.ownBlock = some k → ¬ F k) : Txt w' v l := OwnDV.chg H C h
/-- What an append of a text leaves. -/
structure TxR (w w' : World) (v v' : Value) (l : List Nat) : Prop where
  chg : Chg (AtV v) w w'
  txt : Txt w' v' l
  fr : v'.ownBlock = v.ownBlock ∨ ∃ k, v'.ownBlock = some k ∧ w.heap.size ≤ k
theorem TxR.trans {a b c : World} {v1 v2 v3 : Value} {l m : List Nat} (A : TxR a b v1 v2 l) (B : TxR b c v2 v3 m) : TxR a c v1 v3 m := by
  refine ⟨⟨B.chg.os.trans A.chg.os, B.chg.tape.trans A.chg.tape, B.chg.output.trans A.chg.output, Nat.le_trans A.chg.size B.chg.size, fun q hq hn => ?_⟩, B.txt, ?_⟩
  · refine (B.chg.block q (Nat.lt_of_lt_of_le hq A.chg.size) (fun e => ?_)).trans (A.chg.block q hq hn)
    have e' : v2.ownBlock = some q := e
    rcases A.fr with z | ⟨k, z, l⟩
    · exact hn (by show v1.ownBlock = some q; rw [← z]; exact e')
    · rw [z] at e'
      simp only [Option.some.injEq] at e'
      omega
  · rcases B.fr with z | ⟨k, z, l⟩
    · rcases A.fr with y | ⟨k, y, l⟩
      · exact .inl (z.trans y)
      · exact .inr ⟨k, z.trans y, l⟩
    · exact .inr ⟨k, z, Nat.le_trans A.chg.size l⟩
theorem chgAt {w w' : World} (C : Chg (fun _ => False) w w') (v : Value) : Chg (AtV v) w w' := ⟨C.os, C.tape, C.output, C.size, fun q hq _ => C.block q hq id⟩
theorem TxR.start {w w' : World} {v : Value} {l : List Nat} (H : Txt w v l) (C : Chg (fun _ => False) w w') : TxR w w' v v l := ⟨chgAt C v, H.chg C (fun _ _ => id), .inl rfl⟩
/-- One append, as the walk meets it. -/
theorem TxR.one {w W w3 : World} {v v' v3 : Value} {l : List Nat} {b d : Nat} (R : TxR w W v v' l) (hO : Hid (OwnDV layB 5 w3 v3 (l.length + 1) (appF l.length (fun i => l.getD i 0) (fun _ => b)))) (hC : Chg (AtV v') W w3) (hat : Hid (v3.ownBlock = v'.ownBlock ∨ v3.ownBlock = some W.heap.size)) (e : b = d) : TxR w w3 v v3 (l ++ [d]) := by
  subst e
  refine R.trans ⟨hC, Txt.app (l2 := [b]) hO.out (fun i hi => ?_), ?_⟩
  · have : i = 0 := by simp at hi; omega
    subst this; rfl
  · rcases hat.out with q | q
    · exact .inl q
    · exact .inr ⟨_, q, Nat.le_refl _⟩
theorem Rd.newB (W : World) (b : Nat) : Rd layB (W.alloc (.cells #[.int .u8 ((b : Nat) : Int)] 5)) (.slice (some ⟨W.heap.size, 0, none⟩) 1 1) 1 (fun _ => b) := Rd.new (D := layB) (E := 5) W _ b rfl
def dig (q : Nat) : Nat := if q < 10 then 48 + q else 87 + q
theorem dig_at (q : Nat) (h : q < 16) (h' : q < ByteArray.size ⟨#[48, 49, 50, 51, 52, 53, 54, 55, 56, 57, 97, 98, 99, 100, 101, 102]⟩) : (ByteArray.get ⟨#[48, 49, 50, 51, 52, 53, 54, 55, 56, 57, 97, 98, 99, 100, 101, 102]⟩ q h').toNat = dig q := by
  have : ∀ q : Fin 16, (ByteArray.get ⟨#[48, 49, 50, 51, 52, 53, 54, 55, 56, 57, 97, 98, 99, 100, 101, 102]⟩ q.1 q.2).toNat = dig q.1 := by decide
  exact this ⟨q, h⟩
/-- A number below 256 in decimal. -/
def decB (x : Nat) : List Nat := if 100 ≤ x then [dig (x / 100), dig (x / 10 % 10), dig (x % 10)] else if 10 ≤ x then [dig (x / 10 % 10), dig (x % 10)] else [dig (x % 10)]
theorem Hid.mk' {p : Prop} (h : p) : Hid p := h
theorem TxR.step {w W W' : World} {v v' : Value} {l : List Nat} (R : TxR w W v v' l) (C : Chg (fun _ => False) W W') : TxR w W' v v' l := R.trans (TxR.start R.txt C)
/-- APPEND of one byte: the row's new length is a letter. -/
theorem appT {ops : Array Oper} {rest : List Oper} {o : Oper} {a : Act} {Q : Exit → Act → World → Prop} {w w0 : World} {v0 : Value} (hgd : o.guard = none) (s x : Operand) (ho : o.op = .call { callee := .builtin .append, args := #[s, x], argTypes := #[22, 22] })
    (v : Value) (l : List Nat) (hs : a.eval s = v) (R : TxR w0 w v0 v l) (b d : Nat) (hr : Rd layB w (a.eval x) 1 (fun _ => b)) (e : b = d) (hl : l.length ≤ 900000000)
    (hK : ∀ p n c w3, Hid (TxR w0 w3 v0 (.slice p n c) (l ++ [d])) → wpList Tryz.prog ops Q rest (a.put o.dst (.slice p n c)) w3) : wpList Tryz.prog ops Q (o :: rest) a w :=
  appD hgd s x 22 1 infoB under22 (by omega) ho v l.length _ hs R.txt 1 (fun _ => b) hr (by omega) fun p c w3 hO hC hat => hK p (l.length + 1) c w3 (R.one hO hC hat e)
theorem Txt.form {w : World} {v : Value} {l : List Nat} (H : Txt w v l) : ∃ p n c, v = .slice p n c ∧ n = l.length := by
  obtain ⟨p, c, rfl, _⟩ := OwnDV.form H
  exact ⟨p, _, c, rfl, rfl⟩
set_option maxHeartbeats 2000000 in
theorem c171 (p : Option Addr) (n c : Nat) (l : List Nat) (hl : l.length ≤ 1000) (x : Nat) (hx : x < 256) (w : World) (H : Txt w (.slice p n c) l) : Calls Tryz.prog 171 #[.slice p n c, .int .u8 ((x : Nat) : Int)] w fun e w' => ∃ p' n' c', e = .returned (.slice p' n' c') ∧ Hid (TxR w w' (.slice p n c) (.slice p' n' c') (l ++ decB x)) := by
  have H0 : Hid _ := TxR.start H (Chg.refl _ _)
  clear H
  by_cases h1 : 100 ≤ x
  · go_enter Tryz.func171, Tryz.ntmps171

    go_wp2_with (first | (at_builtin; refine appT rfl (.tmp 7) (.tmp 11) rfl _ l rfl (H0.out.step (by (repeat (with_reducible first | exact Chg.refl _ _ | refine Chg.plus ?_ _ _ | refine Chg.alloc ?_ _ | refine Chg.drew ?_)))) _ (dig (x / 100)) (Rd.newB _ _) (dig_at _ (by omega) _) (by first | omega | (simp; omega)) ?_; intro p3 n3 c3 w3 H1) | (at_builtin; refine appT rfl (.tmp 15) (.tmp 20) rfl _ (l ++ [dig (x / 100)]) rfl (H1.out.step (by (repeat (with_reducible first | exact Chg.refl _ _ | refine Chg.plus ?_ _ _ | refine Chg.alloc ?_ _ | refine Chg.drew ?_)))) _ (dig (x / 10 % 10)) (Rd.newB _ _) (dig_at _ (by omega) _) (by first | omega | (simp; omega)) ?_; intro p3 n3 c3 w3 H2) | (at_builtin; refine appT rfl (.tmp 22) (.tmp 26) rfl _ (l ++ [dig (x / 100)] ++ [dig (x / 10 % 10)]) rfl (H2.out.step (by (repeat (with_reducible first | exact Chg.refl _ _ | refine Chg.plus ?_ _ _ | refine Chg.alloc ?_ _ | refine Chg.drew ?_)))) _ (dig (x % 10)) (Rd.newB _ _) (dig_at _ (by omega) _) (by first | omega | (simp; omega)) ?_; intro p3 n3 c3 w3 H3))
    go_ret
    refine ⟨_, _, _, rfl, ?_⟩
    unfold decB
    rw [if_pos h1]
    have := H3.out
    rw [List.append_assoc, List.append_assoc] at this
    exact this
  · by_cases h2 : 10 ≤ x
    · go_enter Tryz.func171, Tryz.ntmps171

      go_wp2_with (first | (at_builtin; refine appT rfl (.tmp 15) (.tmp 20) rfl _ l rfl (H0.out.step (by (repeat (with_reducible first | exact Chg.refl _ _ | refine Chg.plus ?_ _ _ | refine Chg.alloc ?_ _ | refine Chg.drew ?_)))) _ (dig (x / 10 % 10)) (Rd.newB _ _) (dig_at _ (by omega) _) (by first | omega | (simp; omega)) ?_; intro p3 n3 c3 w3 H2) | (at_builtin; refine appT rfl (.tmp 22) (.tmp 26) rfl _ (l ++ [dig (x / 10 % 10)]) rfl (H2.out.step (by (repeat (with_reducible first | exact Chg.refl _ _ | refine Chg.plus ?_ _ _ | refine Chg.alloc ?_ _ | refine Chg.drew ?_)))) _ (dig (x % 10)) (Rd.newB _ _) (dig_at _ (by omega) _) (by first | omega | (simp; omega)) ?_; intro p3 n3 c3 w3 H3))
      go_ret
      refine ⟨_, _, _, rfl, ?_⟩
      unfold decB
      rw [if_neg h1, if_pos h2]
      have := H3.out
      rw [List.append_assoc] at this
      exact this
    · go_enter Tryz.func171, Tryz.ntmps171

      go_wp2_with (first | (at_builtin; refine appT rfl (.tmp 22) (.tmp 26) rfl _ l rfl (H0.out.step (by (repeat (with_reducible first | exact Chg.refl _ _ | refine Chg.plus ?_ _ _ | refine Chg.alloc ?_ _ | refine Chg.drew ?_)))) _ (dig (x % 10)) (Rd.newB _ _) (dig_at _ (by omega) _) (by first | omega | (simp; omega)) ?_; intro p3 n3 c3 w3 H3))
      go_ret
      refine ⟨_, _, _, rfl, ?_⟩
      unfold decB
      rw [if_neg h1, if_neg h2]
      exact H3.out
end Go.Proofs.YtmoabfpdlbngeaaGreatDoor
end

section
namespace Go.Proofs.YtmoabfpdlbngeaaGreatDoor
open Go.RowKit
set_option maxHeartbeats 400000
set_option linter.unusedVariables false
set_option linter.unusedSimpArgs false
/-- The bytes of an address of 4 bytes. -/
def b4 (k i : Nat) : Nat := lN k / 2 ^ (24 - 8 * i) % 256
theorem b4_lt (k i : Nat) : b4 k i < 256 := Nat.mod_lt _ (by omega)
def txt4 (k : Nat) : List Nat := decB (b4 k 0) ++ [46] ++ decB (b4 k 1) ++ [46] ++ decB (b4 k 2) ++ [46] ++ decB (b4 k 3)
theorem decB_len (x : Nat) : (decB x).length ≤ 3 := by
  unfold decB
  split
  · simp
  · split <;> simp
set_option maxHeartbeats 2000000 in
theorem c172 (k : Nat) (o : okK k) (i : Nat) (hi : i < 4) (w : World) : Calls Tryz.prog 172 #[.agg #[.int .u64 (hK k), .int .u64 (lK k), .bool true, .bool (sK k), .string ⟨#[]⟩], .int .u8 ((i : Nat) : Int)] w fun e w' => e = .returned (.int .u8 ((b4 k i : Nat) : Int)) ∧ Plus w w' := by
  have h1 := hN_lt k o
  have h2 := lN_lt k o
  rw [hK_N, lK_N]
  unfold b4
  generalize hN k = H at *
  generalize lN k = L at *
  generalize sK k = s
  clear o
  rcases (show i = 0 ∨ i = 1 ∨ i = 2 ∨ i = 3 by omega) with rfl | rfl | rfl | rfl
  all_goals
    go_enter Tryz.func172, Tryz.ntmps172

    go_wp2_with fail
    go_ret
    exact ⟨by simp, by repeat (first | exact Plus.refl _ | refine Plus.alloc ?_ _ | refine Plus.plus ?_ _ _ | refine Plus.drew ?_ | refine Plus.drewN ?_ _)⟩
/-- The block of an address that a function keeps. -/
def BoxK (w : World) (B k : Nat) : Prop := w.cell? ⟨B, 0, none⟩ = some (.int .u64 (hK k)) ∧ w.cell? ⟨B, 1, none⟩ = some (.int .u64 (lK k)) ∧ w.cell? ⟨B, 2, none⟩ = some (.bool true) ∧ w.cell? ⟨B, 3, none⟩ = some (.bool (sK k)) ∧ w.cell? ⟨B, 4, none⟩ = some (.string ⟨#[]⟩) ∧ B < w.heap.size
theorem BoxK.new (w : World) (k : Nat) : (w.alloc (.cells #[.int .u64 (hK k), .int .u64 (lK k), .bool true, .bool (sK k), .string ⟨#[]⟩] 78)).heap[w.heap.size]? = some (.cells #[.int .u64 (hK k), .int .u64 (lK k), .bool true, .bool (sK k), .string ⟨#[]⟩] 78 (0, 0)) := blk_new rfl
theorem BoxK.chg {F : Nat → Prop} {W w' : World} {B k : Nat} (h : W.heap[B]? = some (.cells #[.int .u64 (hK k), .int .u64 (lK k), .bool true, .bool (sK k), .string ⟨#[]⟩] 78 (0, 0))) (C : Chg F W w') (hF : ¬ F B) : BoxK w' B k := by
  have h' := heap_chg C h hF
  have hz := rangeAt_of _ _ _ 78 h' 0 [.int .u64 (hK k), .int .u64 (lK k), .bool true, .bool (sK k), .string ⟨#[]⟩] (fun j hj => by rw [Nat.zero_add, ← Array.getElem?_toList])
  exact ⟨hz 0 _ rfl, hz 1 _ rfl, hz 2 _ rfl, hz 3 _ rfl, hz 4 _ rfl, (Array.getElem?_eq_some_iff.1 h').1⟩
theorem k172_0 (k : Nat) (o : okK k) (b : Nat) (hb : b4 k 0 = b) (w : World) : Calls Tryz.prog 172 #[.agg #[.int .u64 (hK k), .int .u64 (lK k), .bool true, .bool (sK k), .string ⟨#[]⟩], .int .u8 0] w fun e w' => e = .returned (.int .u8 ((b : Nat) : Int)) ∧ Plus w w' := by
  subst hb
  exact c172 k o 0 (by omega) w
theorem k172_1 (k : Nat) (o : okK k) (b : Nat) (hb : b4 k 1 = b) (w : World) : Calls Tryz.prog 172 #[.agg #[.int .u64 (hK k), .int .u64 (lK k), .bool true, .bool (sK k), .string ⟨#[]⟩], .int .u8 1] w fun e w' => e = .returned (.int .u8 ((b : Nat) : Int)) ∧ Plus w w' := by
  subst hb
  exact c172 k o 1 (by omega) w
theorem k172_2 (k : Nat) (o : okK k) (b : Nat) (hb : b4 k 2 = b) (w : World) : Calls Tryz.prog 172 #[.agg #[.int .u64 (hK k), .int .u64 (lK k), .bool true, .bool (sK k), .string ⟨#[]⟩], .int .u8 2] w fun e w' => e = .returned (.int .u8 ((b : Nat) : Int)) ∧ Plus w w' := by
  subst hb
  exact c172 k o 2 (by omega) w
theorem k172_3 (k : Nat) (o : okK k) (b : Nat) (hb : b4 k 3 = b) (w : World) : Calls Tryz.prog 172 #[.agg #[.int .u64 (hK k), .int .u64 (lK k), .bool true, .bool (sK k), .string ⟨#[]⟩], .int .u8 3] w fun e w' => e = .returned (.int .u8 ((b : Nat) : Int)) ∧ Plus w w' := by
  subst hb
  exact c172 k o 3 (by omega) w
set_option maxHeartbeats 4000000 in
theorem c147 (p : Option Addr) (n c : Nat) (l : List Nat) (hl : l.length ≤ 900) (k : Nat) (o : okK k) (w : World) (H : Txt w (.slice p n c) l) : Calls Tryz.prog 147 #[.agg #[.int .u64 (hK k), .int .u64 (lK k), .bool true, .bool (sK k), .string ⟨#[]⟩], .slice p n c] w fun e w' => ∃ p' n' c', e = .returned (.slice p' n' c') ∧ Hid (TxR w w' (.slice p n c) (.slice p' n' c') (l ++ txt4 k)) := by
  have HS : Hid (TxR w (w.alloc (.cells #[.int .u64 (hK k), .int .u64 (lK k), .bool true, .bool (sK k), .string ⟨#[]⟩] 78)) (.slice p n c) (.slice p n c) l) := TxR.start H ((Chg.refl _ _).alloc _)
  have H0 : Hid (TxR (w.alloc (.cells #[.int .u64 (hK k), .int .u64 (lK k), .bool true, .bool (sK k), .string ⟨#[]⟩] 78)) (w.alloc (.cells #[.int .u64 (hK k), .int .u64 (lK k), .bool true, .bool (sK k), .string ⟨#[]⟩] 78)) (.slice p n c) (.slice p n c) l) := TxR.start HS.out.txt (Chg.refl _ _)
  have BX : Hid (∀ w' v' l', TxR (w.alloc (.cells #[.int .u64 (hK k), .int .u64 (lK k), .bool true, .bool (sK k), .string ⟨#[]⟩] 78)) w' (.slice p n c) v' l' → BoxK w' w.heap.size k) := fun w' v' l' R => BoxK.chg (BoxK.new w k) R.chg (fun e => by have := OwnDV.lt H e; omega)
  clear H

  obtain ⟨b0, e0⟩ : ∃ b, b4 k 0 = b := ⟨_, rfl⟩
  obtain ⟨b1, e1⟩ : ∃ b, b4 k 1 = b := ⟨_, rfl⟩
  obtain ⟨b2, e2⟩ : ∃ b, b4 k 2 = b := ⟨_, rfl⟩
  obtain ⟨b3, e3⟩ : ∃ b, b4 k 3 = b := ⟨_, rfl⟩
  have q0 := decB_len b0
  have q1 := decB_len b1
  have q2 := decB_len b2
  have q3 := decB_len b3
  go_enter Tryz.func147, Tryz.ntmps147

  go_wp2_with (first | (go_at_call 172; (with_reducible refine (k172_0 k o b0 e0 _).mono ?_); rintro e w' ⟨rfl, dd, oo, rfl⟩) | (go_at_call 172; (with_reducible refine (k172_1 k o b1 e1 _).mono ?_); rintro e w' ⟨rfl, dd, oo, rfl⟩) | (go_at_call 172; (with_reducible refine (k172_2 k o b2 e2 _).mono ?_); rintro e w' ⟨rfl, dd, oo, rfl⟩) | (go_at_call 172; (with_reducible refine (k172_3 k o b3 e3 _).mono ?_); rintro e w' ⟨rfl, dd, oo, rfl⟩))
  refine (c171 _ _ _ l (by first | omega | (simp; omega)) b0 (by rw [← e0]; exact b4_lt k 0) _ (Txt.chg (F := fun _ => False) H0.out.txt (by (repeat (with_reducible first | exact Chg.refl _ _ | refine Chg.plus ?_ _ _ | refine Chg.alloc ?_ _ | refine Chg.drew ?_))) (fun _ _ => id))).mono ?_
  rintro e w' ⟨p', n', c', rfl, Z⟩
  have H1 := Hid.mk' ((H0.out.step (by (repeat (with_reducible first | exact Chg.refl _ _ | refine Chg.plus ?_ _ _ | refine Chg.alloc ?_ _ | refine Chg.drew ?_)))).trans Z.out)
  obtain ⟨cb0, cb1, cb2, cb3, cb4, hBl⟩ := BX.out _ _ _ H1.out
  clear Z

  go_wp2_with (first | (at_builtin; refine appT rfl (.tmp 9) (.tmp 10) rfl _ (l ++ decB b0) rfl (H1.out.step (by (repeat (with_reducible first | exact Chg.refl _ _ | refine Chg.plus ?_ _ _ | refine Chg.alloc ?_ _ | refine Chg.drew ?_)))) _ (46) (Rd.newB _ _) rfl (by first | omega | (simp; omega)) ?_; intro p3 n3 c3 w3 H2; obtain ⟨cb0, cb1, cb2, cb3, cb4, hBl⟩ := BX.out _ _ _ H2.out) | (go_at_call 172; (with_reducible refine (k172_0 k o b0 e0 _).mono ?_); rintro e w' ⟨rfl, dd, oo, rfl⟩) | (go_at_call 172; (with_reducible refine (k172_1 k o b1 e1 _).mono ?_); rintro e w' ⟨rfl, dd, oo, rfl⟩) | (go_at_call 172; (with_reducible refine (k172_2 k o b2 e2 _).mono ?_); rintro e w' ⟨rfl, dd, oo, rfl⟩) | (go_at_call 172; (with_reducible refine (k172_3 k o b3 e3 _).mono ?_); rintro e w' ⟨rfl, dd, oo, rfl⟩))
  refine (c171 _ _ _ ((l ++ decB b0) ++ [46]) (by first | omega | (simp; omega)) b1 (by rw [← e1]; exact b4_lt k 1) _ (Txt.chg (F := fun _ => False) H2.out.txt (by (repeat (with_reducible first | exact Chg.refl _ _ | refine Chg.plus ?_ _ _ | refine Chg.alloc ?_ _ | refine Chg.drew ?_))) (fun _ _ => id))).mono ?_
  rintro e w' ⟨p', n', c', rfl, Z⟩
  have H3 := Hid.mk' ((H2.out.step (by (repeat (with_reducible first | exact Chg.refl _ _ | refine Chg.plus ?_ _ _ | refine Chg.alloc ?_ _ | refine Chg.drew ?_)))).trans Z.out)
  obtain ⟨cb0, cb1, cb2, cb3, cb4, hBl⟩ := BX.out _ _ _ H3.out
  clear Z

  go_wp2_with (first | (at_builtin; refine appT rfl (.tmp 16) (.tmp 17) rfl _ (((l ++ decB b0) ++ [46]) ++ decB b1) rfl (H3.out.step (by (repeat (with_reducible first | exact Chg.refl _ _ | refine Chg.plus ?_ _ _ | refine Chg.alloc ?_ _ | refine Chg.drew ?_)))) _ (46) (Rd.newB _ _) rfl (by first | omega | (simp; omega)) ?_; intro p3 n3 c3 w3 H4; obtain ⟨cb0, cb1, cb2, cb3, cb4, hBl⟩ := BX.out _ _ _ H4.out) | (go_at_call 172; (with_reducible refine (k172_0 k o b0 e0 _).mono ?_); rintro e w' ⟨rfl, dd, oo, rfl⟩) | (go_at_call 172; (with_reducible refine (k172_1 k o b1 e1 _).mono ?_); rintro e w' ⟨rfl, dd, oo, rfl⟩) | (go_at_call 172; (with_reducible refine (k172_2 k o b2 e2 _).mono ?_); rintro e w' ⟨rfl, dd, oo, rfl⟩) | (go_at_call 172; (with_reducible refine (k172_3 k o b3 e3 _).mono ?_); rintro e w' ⟨rfl, dd, oo, rfl⟩))
  refine (c171 _ _ _ ((((l ++ decB b0) ++ [46]) ++ decB b1) ++ [46]) (by first | omega | (simp; omega)) b2 (by rw [← e2]; exact b4_lt k 2) _ (Txt.chg (F := fun _ => False) H4.out.txt (by (repeat (with_reducible first | exact Chg.refl _ _ | refine Chg.plus ?_ _ _ | refine Chg.alloc ?_ _ | refine Chg.drew ?_))) (fun _ _ => id))).mono ?_
  rintro e w' ⟨p', n', c', rfl, Z⟩
  have H5 := Hid.mk' ((H4.out.step (by (repeat (with_reducible first | exact Chg.refl _ _ | refine Chg.plus ?_ _ _ | refine Chg.alloc ?_ _ | refine Chg.drew ?_)))).trans Z.out)
  obtain ⟨cb0, cb1, cb2, cb3, cb4, hBl⟩ := BX.out _ _ _ H5.out
  clear Z

  go_wp2_with (first | (at_builtin; refine appT rfl (.tmp 23) (.tmp 24) rfl _ (((((l ++ decB b0) ++ [46]) ++ decB b1) ++ [46]) ++ decB b2) rfl (H5.out.step (by (repeat (with_reducible first | exact Chg.refl _ _ | refine Chg.plus ?_ _ _ | refine Chg.alloc ?_ _ | refine Chg.drew ?_)))) _ (46) (Rd.newB _ _) rfl (by first | omega | (simp; omega)) ?_; intro p3 n3 c3 w3 H6; obtain ⟨cb0, cb1, cb2, cb3, cb4, hBl⟩ := BX.out _ _ _ H6.out) | (go_at_call 172; (with_reducible refine (k172_0 k o b0 e0 _).mono ?_); rintro e w' ⟨rfl, dd, oo, rfl⟩) | (go_at_call 172; (with_reducible refine (k172_1 k o b1 e1 _).mono ?_); rintro e w' ⟨rfl, dd, oo, rfl⟩) | (go_at_call 172; (with_reducible refine (k172_2 k o b2 e2 _).mono ?_); rintro e w' ⟨rfl, dd, oo, rfl⟩) | (go_at_call 172; (with_reducible refine (k172_3 k o b3 e3 _).mono ?_); rintro e w' ⟨rfl, dd, oo, rfl⟩))
  refine (c171 _ _ _ ((((((l ++ decB b0) ++ [46]) ++ decB b1) ++ [46]) ++ decB b2) ++ [46]) (by first | omega | (simp; omega)) b3 (by rw [← e3]; exact b4_lt k 3) _ (Txt.chg (F := fun _ => False) H6.out.txt (by (repeat (with_reducible first | exact Chg.refl _ _ | refine Chg.plus ?_ _ _ | refine Chg.alloc ?_ _ | refine Chg.drew ?_))) (fun _ _ => id))).mono ?_
  rintro e w' ⟨p', n', c', rfl, Z⟩
  have H7 := Hid.mk' ((H6.out.step (by (repeat (with_reducible first | exact Chg.refl _ _ | refine Chg.plus ?_ _ _ | refine Chg.alloc ?_ _ | refine Chg.drew ?_)))).trans Z.out)
  obtain ⟨cb0, cb1, cb2, cb3, cb4, hBl⟩ := BX.out _ _ _ H7.out
  clear Z

  go_wp2_with fail
  go_ret
  refine ⟨_, _, _, rfl, ?_⟩
  unfold txt4
  rw [e0, e1, e2, e3]
  have := HS.out.trans H7.out
  simp only [List.append_assoc] at this ⊢
  exact this
end Go.Proofs.YtmoabfpdlbngeaaGreatDoor
end

section
namespace Go.Proofs.YtmoabfpdlbngeaaGreatDoor
open Go.RowKit
set_option maxHeartbeats 400000
set_option linter.unusedVariables false
set_option linter.unusedSimpArgs false
/-- The groups of an address of 16 bytes. -/
def g6 (k i : Nat) : Nat := (if i < 4 then hN k else lN k) / 2 ^ (48 - 16 * (i % 4)) % 65536
theorem g6_lt (k i : Nat) : g6 k i < 65536 := Nat.mod_lt _ (by omega)
set_option maxHeartbeats 2000000 in
theorem c193 (B o : Nat) (w : World) : Calls Tryz.prog 193 #[.pointer (some ⟨B, o, none⟩)] w fun e w' => e = .returned (.agg #[.pointer (some ⟨B, o, none⟩), .pointer (some ⟨B, o + 1, none⟩)]) ∧ Plus w w' := by
  go_enter Tryz.func193, Tryz.ntmps193

  go_wp2_with fail
  go_region_with fail
  all_goals go_wp2_with fail
  all_goals exact bodyPost_ret (v := .agg #[.pointer (some ⟨B, o, none⟩), .pointer (some ⟨B, o + 1, none⟩)]) (by simp [results, Tryz.results193, go_sem, IntWalk.iteOmega, ↓IntWalk.iteOmega]) rfl ⟨rfl, by repeat (first | exact Plus.refl _ | refine Plus.alloc ?_ _ | refine Plus.plus ?_ _ _ | refine Plus.drew ?_ | refine Plus.drewN ?_ _)⟩
theorem wrapU16 (z : Int) : IntKind.u16.wrap z = z % 65536 := by
  unfold IntKind.wrap
  simp [IntKind.bits, IntKind.signed]
@[go_sem] theorem idx220_0 (a b : Value) (w : World) : (Instr.index 220 (.agg #[a, b]) (.int .u8 0)).run Tryz.prog w = .ok a w := by
  simp [Instr.index, go_sem]
@[go_sem] theorem idx220_1 (a b : Value) (w : World) : (Instr.index 220 (.agg #[a, b]) (.int .u8 1)).run Tryz.prog w = .ok b w := by
  simp [Instr.index, go_sem]
set_option maxRecDepth 100000 in
set_option maxHeartbeats 2000000 in
theorem c173 (k : Nat) (o : okK k) (i : Nat) (hi : i < 8) (w : World) : Calls Tryz.prog 173 #[.agg #[.int .u64 (hK k), .int .u64 (lK k), .bool true, .bool (sK k), .string ⟨#[]⟩], .int .u8 ((i : Nat) : Int)] w fun e w' => e = .returned (.int .u16 ((g6 k i : Nat) : Int)) ∧ Plus w w' := by
  have h1 := hN_lt k o
  have h2 := lN_lt k o
  rw [hK_N, lK_N]
  unfold g6
  generalize hN k = H at *
  generalize lN k = L at *
  generalize sK k = s
  clear o
  rcases (show i = 0 ∨ i = 1 ∨ i = 2 ∨ i = 3 ∨ i = 4 ∨ i = 5 ∨ i = 6 ∨ i = 7 by omega) with rfl | rfl | rfl | rfl | rfl | rfl | rfl | rfl
  all_goals
    go_enter Tryz.func173, Tryz.ntmps173

    go_wp2_with (first | (go_at_call 193; (with_reducible refine (c193 _ _ _).mono ?_); rintro e w' ⟨rfl, dd, oo, rfl⟩))
    go_ret
    exact ⟨by simp [wrapU16]; try omega, by repeat (first | exact Plus.refl _ | refine Plus.alloc ?_ _ | refine Plus.plus ?_ _ _ | refine Plus.drew ?_ | refine Plus.drewN ?_ _)⟩
theorem and15 (y : Nat) (hy : y < 65536) : bits .and .u16 (y : Int) 15 = ((y % 16 : Nat) : Int) := by
  have := u16_and_nat y 15 hy (by omega)
  rw [show ((15 : Nat) : Int) = 15 from rfl] at this
  rw [this]
  have := Nat.and_two_pow_sub_one_eq_mod y 4
  rw [show (2 : Nat) ^ 4 - 1 = 15 from rfl, show (2 : Nat) ^ 4 = 16 from rfl] at this
  rw [this]
/-- A group in hexadecimal. -/
def hexB (x : Nat) : List Nat := if 4096 ≤ x then [dig (x / 4096), dig (x / 256 % 16), dig (x / 16 % 16), dig (x % 16)] else if 256 ≤ x then [dig (x / 256 % 16), dig (x / 16 % 16), dig (x % 16)] else if 16 ≤ x then [dig (x / 16 % 16), dig (x % 16)] else [dig (x % 16)]
theorem hexB_len (x : Nat) : (hexB x).length ≤ 4 := by
  unfold hexB
  split
  · simp
  · split
    · simp
    · split <;> simp
set_option maxRecDepth 100000 in
set_option maxHeartbeats 4000000 in
theorem c174 (p : Option Addr) (n c : Nat) (l : List Nat) (hl : l.length ≤ 1000) (x : Nat) (hx : x < 65536) (w : World) (H : Txt w (.slice p n c) l) : Calls Tryz.prog 174 #[.slice p n c, .int .u16 ((x : Nat) : Int)] w fun e w' => ∃ p' n' c', e = .returned (.slice p' n' c') ∧ Hid (TxR w w' (.slice p n c) (.slice p' n' c') (l ++ hexB x)) := by
  have H0 : Hid _ := TxR.start H (Chg.refl _ _)
  clear H
  have a0 := and15 x hx
  have a1 : bits .and .u16 ((x : Int) / 16) 15 = ((x / 16 % 16 : Nat) : Int) := and15 (x / 16) (by omega)
  have a2 : bits .and .u16 ((x : Int) / 256) 15 = ((x / 256 % 16 : Nat) : Int) := and15 (x / 256) (by omega)
  by_cases h0 : 4096 ≤ x
  · have h1 : 256 ≤ x := by omega
    have h2 : 16 ≤ x := by omega
    go_enter Tryz.func174, Tryz.ntmps174
    go_wp2_with (first | (at_builtin; refine appT rfl (.tmp 7) (.tmp 11) rfl _ l rfl (H0.out.step (by (repeat (with_reducible first | exact Chg.refl _ _ | refine Chg.plus ?_ _ _ | refine Chg.alloc ?_ _ | refine Chg.drew ?_)))) _ (dig (x / 4096)) (Rd.newB _ _) (dig_at _ (by omega) _) (by first | omega | (simp; omega)) ?_; intro p3 n3 c3 w3 H1) | (at_builtin; refine appT rfl (.tmp 15) (.tmp 20) rfl _ (l ++ [dig (x / 4096)]) rfl (H1.out.step (by (repeat (with_reducible first | exact Chg.refl _ _ | refine Chg.plus ?_ _ _ | refine Chg.alloc ?_ _ | refine Chg.drew ?_)))) _ (dig (x / 256 % 16)) (Rd.newB _ _) (dig_at _ (by omega) _) (by first | omega | (simp; omega)) ?_; intro p3 n3 c3 w3 H2) | (at_builtin; refine appT rfl (.tmp 24) (.tmp 29) rfl _ ((l ++ [dig (x / 4096)]) ++ [dig (x / 256 % 16)]) rfl (H2.out.step (by (repeat (with_reducible first | exact Chg.refl _ _ | refine Chg.plus ?_ _ _ | refine Chg.alloc ?_ _ | refine Chg.drew ?_)))) _ (dig (x / 16 % 16)) (Rd.newB _ _) (dig_at _ (by omega) _) (by first | omega | (simp; omega)) ?_; intro p3 n3 c3 w3 H3) | (at_builtin; refine appT rfl (.tmp 31) (.tmp 35) rfl _ (((l ++ [dig (x / 4096)]) ++ [dig (x / 256 % 16)]) ++ [dig (x / 16 % 16)]) rfl (H3.out.step (by (repeat (with_reducible first | exact Chg.refl _ _ | refine Chg.plus ?_ _ _ | refine Chg.alloc ?_ _ | refine Chg.drew ?_)))) _ (dig (x % 16)) (Rd.newB _ _) (dig_at _ (by omega) _) (by first | omega | (simp; omega)) ?_; intro p3 n3 c3 w3 H4))
    go_ret
    refine ⟨_, _, _, rfl, ?_⟩
    unfold hexB
    simp only [h0, h1, h2, if_true, if_false]
    have := H4.out
    try simp only [List.append_assoc, List.cons_append, List.nil_append] at this
    exact this

  · by_cases h1 : 256 ≤ x
    · have h2 : 16 ≤ x := by omega
      go_enter Tryz.func174, Tryz.ntmps174
      go_wp2_with (first | (at_builtin; refine appT rfl (.tmp 15) (.tmp 20) rfl _ l rfl (H0.out.step (by (repeat (with_reducible first | exact Chg.refl _ _ | refine Chg.plus ?_ _ _ | refine Chg.alloc ?_ _ | refine Chg.drew ?_)))) _ (dig (x / 256 % 16)) (Rd.newB _ _) (dig_at _ (by omega) _) (by first | omega | (simp; omega)) ?_; intro p3 n3 c3 w3 H2) | (at_builtin; refine appT rfl (.tmp 24) (.tmp 29) rfl _ (l ++ [dig (x / 256 % 16)]) rfl (H2.out.step (by (repeat (with_reducible first | exact Chg.refl _ _ | refine Chg.plus ?_ _ _ | refine Chg.alloc ?_ _ | refine Chg.drew ?_)))) _ (dig (x / 16 % 16)) (Rd.newB _ _) (dig_at _ (by omega) _) (by first | omega | (simp; omega)) ?_; intro p3 n3 c3 w3 H3) | (at_builtin; refine appT rfl (.tmp 31) (.tmp 35) rfl _ ((l ++ [dig (x / 256 % 16)]) ++ [dig (x / 16 % 16)]) rfl (H3.out.step (by (repeat (with_reducible first | exact Chg.refl _ _ | refine Chg.plus ?_ _ _ | refine Chg.alloc ?_ _ | refine Chg.drew ?_)))) _ (dig (x % 16)) (Rd.newB _ _) (dig_at _ (by omega) _) (by first | omega | (simp; omega)) ?_; intro p3 n3 c3 w3 H4))
      go_ret
      refine ⟨_, _, _, rfl, ?_⟩
      unfold hexB
      simp only [h0, h1, h2, if_true, if_false]
      have := H4.out
      try simp only [List.append_assoc, List.cons_append, List.nil_append] at this
      exact this

    · by_cases h2 : 16 ≤ x
      · go_enter Tryz.func174, Tryz.ntmps174
        go_wp2_with (first | (at_builtin; refine appT rfl (.tmp 24) (.tmp 29) rfl _ l rfl (H0.out.step (by (repeat (with_reducible first | exact Chg.refl _ _ | refine Chg.plus ?_ _ _ | refine Chg.alloc ?_ _ | refine Chg.drew ?_)))) _ (dig (x / 16 % 16)) (Rd.newB _ _) (dig_at _ (by omega) _) (by first | omega | (simp; omega)) ?_; intro p3 n3 c3 w3 H3) | (at_builtin; refine appT rfl (.tmp 31) (.tmp 35) rfl _ (l ++ [dig (x / 16 % 16)]) rfl (H3.out.step (by (repeat (with_reducible first | exact Chg.refl _ _ | refine Chg.plus ?_ _ _ | refine Chg.alloc ?_ _ | refine Chg.drew ?_)))) _ (dig (x % 16)) (Rd.newB _ _) (dig_at _ (by omega) _) (by first | omega | (simp; omega)) ?_; intro p3 n3 c3 w3 H4))
        go_ret
        refine ⟨_, _, _, rfl, ?_⟩
        unfold hexB
        simp only [h0, h1, h2, if_true, if_false]
        have := H4.out
        try simp only [List.append_assoc, List.cons_append, List.nil_append] at this
        exact this

      · go_enter Tryz.func174, Tryz.ntmps174
        go_wp2_with (first | (at_builtin; refine appT rfl (.tmp 31) (.tmp 35) rfl _ l rfl (H0.out.step (by (repeat (with_reducible first | exact Chg.refl _ _ | refine Chg.plus ?_ _ _ | refine Chg.alloc ?_ _ | refine Chg.drew ?_)))) _ (dig (x % 16)) (Rd.newB _ _) (dig_at _ (by omega) _) (by first | omega | (simp; omega)) ?_; intro p3 n3 c3 w3 H4))
        go_ret
        refine ⟨_, _, _, rfl, ?_⟩
        unfold hexB
        simp only [h0, h1, h2, if_true, if_false]
        have := H4.out
        try simp only [List.append_assoc, List.cons_append, List.nil_append] at this
        exact this

end Go.Proofs.YtmoabfpdlbngeaaGreatDoor
end
