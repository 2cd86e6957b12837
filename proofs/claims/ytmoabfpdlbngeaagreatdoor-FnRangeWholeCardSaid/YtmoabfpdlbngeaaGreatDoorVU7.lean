/-
  Part of the proofs on the laws of pub-addresssets: joined texts (U7, U8).
-/
import Derived.Test.YtmoabfpdlbngeaaGreatDoorVU5
import Derived.Test.YtmoabfpdlbngeaaGreatDoorVSh
section
namespace Go.Proofs.YtmoabfpdlbngeaaGreatDoor
open Go.RowKit
set_option maxHeartbeats 400000
set_option linter.unusedVariables false
set_option linter.unusedSimpArgs false
/-- The two tables of the library that the texts read. -/
structure Tabs (w : World) : Prop where
  pow : Lib.TabIs Tryz.prog w "internal/strconv.uint64pow10" .u64 Lib.pow10Tab
  db : w.rangeAt 3 15 [.int .u8 4]
theorem itoa_dec (x : Nat) (hx : x < 256) : Lib.itoa ((x : Nat) : Int) = (decB x).map UInt8.ofNat := by
  have : ∀ x : Fin 256, Lib.itoa ((x.1 : Nat) : Int) = (decB x.1).map UInt8.ofNat := by decide +kernel
  exact this ⟨x, hx⟩
theorem k117 (x : Nat) (hx : x < 256) (w : World) (T : Tabs w) : Calls Tryz.prog 117 #[.int .i64 ((x : Nat) : Int)] w fun e w' => e = .returned (.string (toB (decB x))) ∧ Plus w w' := by
  refine (Tryz.strconv_Itoa ((x : Nat) : Int) (by omega) (by omega) w T.pow).mono ?_
  rintro e w' ⟨rfl, k, os, rfl⟩
  exact ⟨by rw [itoa_dec x hx]; rfl, ⟨_, os, rfl⟩⟩
/-- Texts with a separator between. -/
def jn (sep : List Nat) : List (List Nat) → List Nat
  | [] => []
  | [x] => x
  | x :: y :: r => x ++ sep ++ jn sep (y :: r)
theorem jn_join (sep : List Nat) : ∀ xs : List (List Nat), (Lib.join (xs.map (fun x => x.map UInt8.ofNat)) (sep.map UInt8.ofNat)) = (jn sep xs).map UInt8.ofNat
  | [] => rfl
  | [x] => by simp [Lib.join_one, jn]
  | x :: y :: r => by
    have ih := jn_join sep (y :: r)
    unfold Lib.join at ih ⊢
    rw [List.map_cons, List.map_cons, jn, List.map_append, List.map_append, ← ih]
    simp [List.intercalate, List.intersperse]
theorem jn_len (sep : List Nat) (b : Nat) : ∀ xs : List (List Nat), (∀ x, x ∈ xs → x.length ≤ b) → (jn sep xs).length ≤ (b + sep.length) * xs.length
  | [], _ => by simp [jn]
  | [x], h => by
    have := h x (by simp)
    simp [jn]; omega
  | x :: y :: r, h => by
    have h1 := h x (by simp)
    have ih := jn_len sep b (y :: r) (fun z hz => h z (by simp at hz ⊢; exact .inr hz))
    simp only [jn, List.length_append, List.length_cons, Nat.mul_add, Nat.mul_one] at ih ⊢
    omega
/-- Rows of texts. -/
def layT : Lay (List Nat) := ⟨fun l => [.string (toB l)], 1, fun _ => rfl, fun a u hu => by
  simp only [List.mem_cons, List.not_mem_nil, or_false] at hu
  subst hu; simp [Value.oneCell'], by omega⟩
theorem infoT : InfoD layT 9 16 := InfoD.mk (c := 1) rfl (by kernel_rfl)
theorem under167 : Tryz.prog.underlying 167 = some (.slice 9) := by kernel_rfl
theorem below_plus {w w' : World} (h : Below w.heap.size w w') : Plus w w' := Chg.plus_of (F := fun _ => False) ⟨h.os, h.tape, h.output, h.size, fun q hq _ => h.block q hq⟩ (fun _ _ => id)
theorem k118 (xs : List (List Nat)) (hx : xs.length ≤ 1000) (hl : ∀ x, x ∈ xs → x.length ≤ 1000) (sep : List Nat) (hs : sep.length ≤ 10) (v : Value) (w : World) (H : OwnDV layT 9 w v xs.length (fun i => xs.getD i [])) : Calls Tryz.prog 118 #[v, .string (toB sep)] w fun e w' => e = .returned (.string (toB (jn sep xs))) ∧ Plus w w' := by
  have hj : (jn sep xs).length ≤ 140737488355328 := by
    have h1 := jn_len sep 1000 xs hl
    have h2 : (1000 + sep.length) * xs.length ≤ 1010 * 1000 := Nat.mul_le_mul (by omega) hx
    omega
  have hjn := jn_join sep xs
  by_cases h0 : xs = []
  · subst h0
    obtain ⟨p, c, rfl, _⟩ := OwnDV.form H
    refine (Tryz.strings_Join_none p c (toB sep) w).mono ?_
    rintro e w' ⟨rfl, rfl⟩
    exact ⟨rfl, .refl _⟩
  · rcases H with ⟨_, e⟩ | ⟨G, cap, rfl, R⟩
    · exact absurd (List.eq_nil_of_length_eq_zero e) h0
    · have hlen : (xs.map toB).length = xs.length := by simp
      have hmap : (xs.map toB).map (·.data.toList) = xs.map (fun x => x.map UInt8.ofNat) := by
        rw [List.map_map]
        exact List.map_congr_left (fun x _ => by simp [toB])
      have hsep : (toB sep).data.toList = sep.map UInt8.ofNat := by simp [toB]
      have z := Tryz.strings_Join G 0 cap (xs.map toB) (toB sep) w (fun j x hjx => by
        rw [List.getElem?_map] at hjx
        cases hj' : xs[j]? with
        | none => rw [hj'] at hjx; cases hjx
        | some y =>
          rw [hj'] at hjx
          simp only [Option.map_some, Option.some.injEq] at hjx
          subst hjx
          have hlt := (List.getElem?_eq_some_iff.1 hj').1
          have := R.row j hlt 0 _ rfl
          rw [show layT.c = 1 from rfl, Nat.mul_one, Nat.add_zero] at this
          rw [this, List.getD_eq_getElem?_getD, hj']
          rfl) R.lt (by rw [hlen]; omega) (by rw [hlen]; exact R.le) (by rw [hmap, hsep, hjn, List.length_map]; exact hj)
      rw [hlen, hmap, hsep, hjn] at z
      refine z.mono ?_
      rintro e w' ⟨rfl, b⟩
      exact ⟨rfl, below_plus b⟩
/-- A row of texts that a function builds. -/
structure StR (w0 w : World) (v : Value) (m : Nat) (F : Nat → List Nat) : Prop where
  chg : Chg (fun _ => False) w0 w
  own : OwnDV layT 9 w v m F
  ge : ∀ q, v.ownBlock = some q → w0.heap.size ≤ q
theorem StR.step {w0 w W : World} {v : Value} {m : Nat} {F : Nat → List Nat} (R : StR w0 w v m F) (C : Chg (fun _ => False) w W) : StR w0 W v m F := ⟨R.chg.trans C, R.own.chg C (fun _ _ => id), R.ge⟩
theorem StR.nil (w : World) (F : Nat → List Nat) : StR w w (.slice none 0 0) 0 F := ⟨.refl _ _, .nil _, fun q e => by simp [Value.ownBlock] at e⟩
theorem Rd.newT (W : World) (l : List Nat) : Rd layT (W.alloc (.cells #[.string (toB l)] 9)) (.slice (some ⟨W.heap.size, 0, none⟩) 1 1) 1 (fun _ => l) := Rd.new (D := layT) (E := 9) W _ l rfl
theorem Rd.newTAt (W : World) (l : List Nat) (B : Nat) (hB : B = W.heap.size) : Rd layT (W.alloc (.cells #[.string (toB l)] 9)) (.slice (some ⟨B, 0, none⟩) 1 1) 1 (fun _ => l) := by
  subst hB
  exact Rd.newT W l
theorem appS {ops : Array Oper} {rest : List Oper} {o : Oper} {a : Act} {Q : Exit → Act → World → Prop} {w w0 : World} (hgd : o.guard = none) (s x : Operand) (ho : o.op = .call { callee := .builtin .append, args := #[s, x], argTypes := #[167, 167] })
    (v : Value) (m : Nat) (F : Nat → List Nat) (hs : a.eval s = v) (R : StR w0 w v m F) (l : List Nat) (hr : Rd layT w (a.eval x) 1 (fun _ => l)) (e : l = F m) (hl : m ≤ 1000)
    (hK : ∀ p n c w3, Hid (StR w0 w3 (.slice p n c) (m + 1) F) → wpList Tryz.prog ops Q rest (a.put o.dst (.slice p n c)) w3) : wpList Tryz.prog ops Q (o :: rest) a w :=
  appD hgd s x 167 16 infoT under167 (by omega) ho v m F hs R.own 1 (fun _ => l) hr (by omega) fun p c w3 hO hC hat => hK p (m + 1) c w3 ⟨Chg.app R.chg hC R.ge, OwnDV.congr hO.out (fun j hj => by
    unfold appF
    split
    · rfl
    · rw [e, show j = m by omega]), fun q e => by
    rcases hat.out with z | z
    · exact R.ge q (by rw [← z]; exact e)
    · rw [z] at e
      have := R.chg.size
      simp only [Option.some.injEq] at e
      omega⟩
theorem b4_m (k : Nat) (o : okK k) (hs : sK k = false) (i : Nat) (hi : i < 4) : k / 2 ^ (24 - 8 * i) % 256 = b4 k i := by
  have h : ¬ 8589934592 ≤ k := of_decide_eq_false hs
  unfold b4 lN
  rw [if_neg h]
  rcases (show i = 0 ∨ i = 1 ∨ i = 2 ∨ i = 3 by omega) with rfl | rfl | rfl | rfl <;> simp <;> omega
theorem Tabs.chg {w w' : World} (T : Tabs w) (C : Chg (fun _ => False) w w') : Tabs w' := by
  refine ⟨?_, ?_⟩
  · have h := T.pow
    unfold Lib.TabIs World.var? at h ⊢
    cases hg : Tryz.prog.globalNamed "internal/strconv.uint64pow10" with
    | none => rw [hg] at h; cases h
    | some g =>
      rw [hg] at h
      simp only [Option.bind_some] at h ⊢
      cases hb : w.heap[g]? with
      | none => rw [hb] at h; cases h
      | some b =>
        have hlt := (Array.getElem?_eq_some_iff.1 hb).1
        rw [C.block g hlt id, hb]
        rw [hb] at h
        exact h
  · exact rangeAt_chg C T.db id
set_option maxRecDepth 100000 in
set_option maxHeartbeats 4000000 in
/-- spec.dotted. -/
theorem c65 (k : Nat) (o : okK k) (hs : sK k = false) (w : World) (T : Tabs w) : Calls Tryz.prog 65 #[.agg #[.bool (sK k), .int .u64 (hK k), .int .u64 (mK k)]] w fun e w' => e = .returned (.string (toB (txt4 k))) ∧ Plus w w' := by
  have HT : Hid _ := T
  have h4 : ∀ i, i < 4 → k / 2 ^ (24 - 8 * i) % 256 = b4 k i := b4_m k o hs
  have hm : mK k = ((k : Nat) : Int) := by unfold mK; rw [if_neg (of_decide_eq_false hs)]
  have hk : k < 4294967296 := by
    have := (of_decide_eq_false hs : ¬ 8589934592 ≤ k)
    rcases o with q | q <;> omega
  have H4 : Hid _ := h4
  have HMK : Hid (mK k = ((k : Nat) : Int)) := hm
  clear T h4 hm hs o
  have BY : Hid (∀ w', Chg (fun _ => False) (w.alloc (.cells #[.bool (sK k), .int .u64 (hK k), .int .u64 (mK k)] 38)) w' → w'.cell? ⟨w.heap.size, 2, none⟩ = some (.int .u64 ((k : Nat) : Int)) ∧ w.heap.size < w'.heap.size) := fun w' C => by
    have hh := heap_chg C (blk_new rfl) id
    have hz := rangeAt_of _ _ _ 38 hh 0 [.bool (sK k), .int .u64 (hK k), .int .u64 (mK k)] (fun j hj => by rw [Nat.zero_add, ← Array.getElem?_toList])
    have h2 := hz 2 _ rfl
    rw [HMK.out] at h2
    exact ⟨h2, (Array.getElem?_eq_some_iff.1 hh).1⟩
  go_enter Tryz.func65, Tryz.ntmps65

  go_wp2_with fail
  go_loopw [3, 5] (fun t3 t5 wr => ∃ (i : Nat) (p1 : Option Addr) (n1 c1 : Nat), t5 = .int .i64 i ∧ t3 = .slice p1 n1 c1 ∧ i ≤ 4 ∧ Hid (StR (w.alloc (.cells #[.bool (sK k), .int .u64 (hK k), .int .u64 (mK k)] 38)) wr (.slice p1 n1 c1) i (fun j => decB (b4 k j))))
    (fun _ t5 _ => 4 - (intOf t5).toNat)
  case atStart => exact ⟨0, none, 0, 0, rfl, rfl, Nat.zero_le _, StR.nil _ _⟩
  case round =>
    obtain ⟨i, p1, n1, c1, rfl, rfl, hi, Y⟩ := hrel
    obtain ⟨W1, rfl⟩ : ∃ x, x = wr := ⟨_, rfl⟩
    obtain ⟨ca2, hBl⟩ := BY.out _ Y.out.chg
    by_cases hlt : i < 4
    · obtain ⟨b, hb⟩ : ∃ b, b4 k i = b := ⟨_, rfl⟩
      have hbl : b < 256 := by rw [← hb]; exact b4_lt _ _
      have HB : Hid (decB b = (fun j => decB (b4 k j)) i) := by unfold Hid; rw [← hb]
      have HTW : Hid (Tabs W1) := HT.out.chg (Chg.trans (by (repeat (with_reducible first | exact Chg.refl _ _ | refine Chg.plus ?_ _ _ | refine Chg.alloc ?_ _ | refine Chg.drew ?_))) Y.out.chg)
      have hv := H4.out i hlt
      rw [hb] at hv
      clear hb
      rcases (show i = 0 ∨ i = 1 ∨ i = 2 ∨ i = 3 by omega) with rfl | rfl | rfl | rfl
      · simp at hv
        go_wp2_with (first | (at_builtin; refine appS rfl (.tmp 8) (.tmp 18) rfl _ _ _ rfl (Y.out.step (by (repeat (with_reducible first | exact Chg.refl _ _ | refine Chg.plus ?_ _ _ | refine Chg.alloc ?_ _ | refine Chg.drew ?_)))) _ (Rd.newTAt _ _ _ (by simp)) HB.out (by omega) ?_; intro p3 n3 c3 w3 H1) | (go_at_call 117; (first | rw [show ((k : Int) / _ % 256) = ((b : Nat) : Int) from by omega] | rw [show ((k : Int) / 16777216) = ((b : Nat) : Int) from by omega] | rw [show ((k : Int) % 256) = ((b : Nat) : Int) from by omega]); (with_reducible refine (k117 b hbl _ (HTW.out.chg (by (repeat (with_reducible first | exact Chg.refl _ _ | refine Chg.plus ?_ _ _ | refine Chg.alloc ?_ _ | refine Chg.drew ?_))))).mono ?_); rintro e w' ⟨rfl, dd, oo, rfl⟩))
        go_roundw
        case rel => exact ⟨1, p3, n3, c3, rfl, rfl, by omega, H1⟩
        case measure => simp [intOf]
      · simp at hv
        go_wp2_with (first | (at_builtin; refine appS rfl (.tmp 8) (.tmp 18) rfl _ _ _ rfl (Y.out.step (by (repeat (with_reducible first | exact Chg.refl _ _ | refine Chg.plus ?_ _ _ | refine Chg.alloc ?_ _ | refine Chg.drew ?_)))) _ (Rd.newTAt _ _ _ (by simp)) HB.out (by omega) ?_; intro p3 n3 c3 w3 H1) | (go_at_call 117; (first | rw [show ((k : Int) / _ % 256) = ((b : Nat) : Int) from by omega] | rw [show ((k : Int) / 16777216) = ((b : Nat) : Int) from by omega] | rw [show ((k : Int) % 256) = ((b : Nat) : Int) from by omega]); (with_reducible refine (k117 b hbl _ (HTW.out.chg (by (repeat (with_reducible first | exact Chg.refl _ _ | refine Chg.plus ?_ _ _ | refine Chg.alloc ?_ _ | refine Chg.drew ?_))))).mono ?_); rintro e w' ⟨rfl, dd, oo, rfl⟩))
        go_roundw
        case rel => exact ⟨2, p3, n3, c3, rfl, rfl, by omega, H1⟩
        case measure => simp [intOf]
      · simp at hv
        go_wp2_with (first | (at_builtin; refine appS rfl (.tmp 8) (.tmp 18) rfl _ _ _ rfl (Y.out.step (by (repeat (with_reducible first | exact Chg.refl _ _ | refine Chg.plus ?_ _ _ | refine Chg.alloc ?_ _ | refine Chg.drew ?_)))) _ (Rd.newTAt _ _ _ (by simp)) HB.out (by omega) ?_; intro p3 n3 c3 w3 H1) | (go_at_call 117; (first | rw [show ((k : Int) / _ % 256) = ((b : Nat) : Int) from by omega] | rw [show ((k : Int) / 16777216) = ((b : Nat) : Int) from by omega] | rw [show ((k : Int) % 256) = ((b : Nat) : Int) from by omega]); (with_reducible refine (k117 b hbl _ (HTW.out.chg (by (repeat (with_reducible first | exact Chg.refl _ _ | refine Chg.plus ?_ _ _ | refine Chg.alloc ?_ _ | refine Chg.drew ?_))))).mono ?_); rintro e w' ⟨rfl, dd, oo, rfl⟩))
        go_roundw
        case rel => exact ⟨3, p3, n3, c3, rfl, rfl, by omega, H1⟩
        case measure => simp [intOf]
      · simp at hv
        go_wp2_with (first | (at_builtin; refine appS rfl (.tmp 8) (.tmp 18) rfl _ _ _ rfl (Y.out.step (by (repeat (with_reducible first | exact Chg.refl _ _ | refine Chg.plus ?_ _ _ | refine Chg.alloc ?_ _ | refine Chg.drew ?_)))) _ (Rd.newTAt _ _ _ (by simp)) HB.out (by omega) ?_; intro p3 n3 c3 w3 H1) | (go_at_call 117; (first | rw [show ((k : Int) / _ % 256) = ((b : Nat) : Int) from by omega] | rw [show ((k : Int) / 16777216) = ((b : Nat) : Int) from by omega] | rw [show ((k : Int) % 256) = ((b : Nat) : Int) from by omega]); (with_reducible refine (k117 b hbl _ (HTW.out.chg (by (repeat (with_reducible first | exact Chg.refl _ _ | refine Chg.plus ?_ _ _ | refine Chg.alloc ?_ _ | refine Chg.drew ?_))))).mono ?_); rintro e w' ⟨rfl, dd, oo, rfl⟩))
        go_roundw
        case rel => exact ⟨4, p3, n3, c3, rfl, rfl, by omega, H1⟩
        case measure => simp [intOf]
    · obtain rfl : i = 4 := by omega
      have HQ : Hid (OwnDV layT 9 W1 (.slice p1 n1 c1) [decB (b4 k 0), decB (b4 k 1), decB (b4 k 2), decB (b4 k 3)].length (fun i => [decB (b4 k 0), decB (b4 k 1), decB (b4 k 2), decB (b4 k 3)].getD i [])) := OwnDV.congr Y.out.own (fun j hj => by
        match j, hj with
        | 0, _ => rfl
        | 1, _ => rfl
        | 2, _ => rfl
        | 3, _ => rfl)
      have HPL : Hid (Plus w W1) := (Chg.trans (by (repeat (with_reducible first | exact Chg.refl _ _ | refine Chg.plus ?_ _ _ | refine Chg.alloc ?_ _ | refine Chg.drew ?_))) Y.out.chg).plus_of (fun _ _ => id)
      go_wp2_with fail
      refine (k118 _ (by simp) (fun x hx => ?_) [46] (by simp) _ _ HQ.out).mono ?_
      · have q0 := decB_len (b4 k 0)
        have q1 := decB_len (b4 k 1)
        have q2 := decB_len (b4 k 2)
        have q3 := decB_len (b4 k 3)
        simp at hx
        rcases hx with rfl | rfl | rfl | rfl <;> omega
      rintro e w' ⟨rfl, Z⟩
      have HZ : Hid (Plus w w') := HPL.out.trans Z
      clear Z
      go_wp2_with fail
      go_ret
      exact ⟨by unfold txt4; simp [jn], HZ.out⟩
end Go.Proofs.YtmoabfpdlbngeaaGreatDoor
end

section
namespace Go.Proofs.YtmoabfpdlbngeaaGreatDoor
open Go.RowKit
set_option maxHeartbeats 400000
set_option linter.unusedVariables false
set_option linter.unusedSimpArgs false
theorem c199 (w : World) : Calls Tryz.prog 199 #[.int .i64 16] w fun e w' => e = .returned (.bool true) ∧ Plus w w' := by
  go_enter Tryz.func199, Tryz.ntmps199

  go_wp2_with fail
  go_ret
  exact ⟨by rfl, by repeat (first | exact Plus.refl _ | refine Plus.alloc ?_ _ | refine Plus.plus ?_ _ _ | refine Plus.drew ?_ | refine Plus.drewN ?_ _)⟩
theorem c203 (w : World) (T : Tabs w) : Calls Tryz.prog 203 #[.int .u64 16] w fun e w' => e = .returned (.int .i64 4) ∧ Plus w w' := by
  have c0 : w.cell? ⟨3, 15, none⟩ = some (.int .u8 4) := T.db 0 _ rfl
  have hl : 3 < w.heap.size := World.block_lt_of_cell? _ _ c0
  have e1 : IntKind.u64.wrap (-16) = 18446744073709551600 := by decide
  have e2 : bits .and .u64 16 18446744073709551600 = 16 := by decide +kernel
  have e3 : IntKind.u64.wrap (16 * 285870213051353865) = 4573923408821661840 := by decide
  have e4 : IntKind.u64.wrap 4573923408821661840 = 4573923408821661840 := by decide
  clear T
  go_enter Tryz.func203, Tryz.ntmps203

  go_wp2_with fail
  go_ret
  exact ⟨by rfl, by repeat (first | exact Plus.refl _ | refine Plus.alloc ?_ _ | refine Plus.plus ?_ _ _ | refine Plus.drew ?_ | refine Plus.drewN ?_ _)⟩
theorem c200 (w : World) (T : Tabs w) : Calls Tryz.prog 200 #[.int .u64 16] w fun e w' => e = .returned (.int .i64 4) ∧ Plus w w' := by
  have HT : Hid _ := T
  clear T
  go_enter Tryz.func200, Tryz.ntmps200

  go_wp2_with (first | (go_at_call 203; (with_reducible refine (c203 _ HT.out).mono ?_); rintro e w' ⟨rfl, dd, oo, rfl⟩))
  go_ret
  exact ⟨by rfl, by repeat (first | exact Plus.refl _ | refine Plus.alloc ?_ _ | refine Plus.plus ?_ _ _ | refine Plus.drew ?_ | refine Plus.drewN ?_ _)⟩
/-- The block of 65 bytes, its last j bytes written. -/
def BitsB (w : World) (B j x : Nat) : Prop := ∃ cs, w.heap[B]? = some (.cells cs 228 (0, 0)) ∧ cs.size = 65 ∧ ∀ t, t < j → cs[64 - t]? = some (.int .u8 ((dig (x / 16 ^ t % 16) : Nat) : Int))
theorem zero228 : Tryz.zeroCells228.size = 65 := by kernel_rfl
theorem BitsB.new (w : World) (x : Nat) : BitsB (w.alloc (.cells Tryz.zeroCells228 228)) w.heap.size 0 x := ⟨_, blk_new rfl, zero228, fun t h => by omega⟩
theorem BitsB.chg {w w' : World} {B j x : Nat} (H : BitsB w B j x) (C : Chg (fun _ => False) w w') : BitsB w' B j x := by
  obtain ⟨cs, h1, h2, h3⟩ := H
  exact ⟨cs, heap_chg C h1 id, h2, h3⟩
theorem BitsB.at {w : World} {B j x : Nat} (H : BitsB w B j x) (q : Nat) (hq : q < 65) : (∃ v, w.cell? ⟨B, q, none⟩ = some v) ∧ w.frozen? ⟨B, q, none⟩ = false ∧ B < w.heap.size := by
  obtain ⟨cs, h1, h2, h3⟩ := H
  refine ⟨⟨cs[q], ?_⟩, fr_at h1 q, (Array.getElem?_eq_some_iff.1 h1).1⟩
  rw [cell_of_row w B q cs 228 (0, 0) h1, Array.getElem?_eq_getElem (by omega)]
theorem BitsB.set {w : World} {B j x : Nat} (H : BitsB w B j x) (q : Nat) (hq : q + j = 64) (b : Nat) (hb : b = dig (x / 16 ^ j % 16)) : BitsB (w.setCell ⟨B, q, none⟩ (.int .u8 ((b : Nat) : Int))) B (j + 1) x := by
  obtain ⟨cs, h1, h2, h3⟩ := H
  refine ⟨cs.setIfInBounds q (.int .u8 ((b : Nat) : Int)), ?_, by simpa using h2, fun t ht => ?_⟩
  · rw [setCell_eq_setRow w B q _ 228 (0, 0) _ h1]
    exact setRow_heap w B _ _ 228 (0, 0) h1
  · rw [Array.getElem?_setIfInBounds]
    by_cases e : t = j
    · rw [if_pos (by omega), if_pos (by omega), hb, e]
    · rw [if_neg (by omega)]
      exact h3 t (by omega)
theorem BitsB.cell {w : World} {B j x : Nat} (H : BitsB w B j x) (t : Nat) (ht : t < j) (q : Nat) (hq : q + t = 64) : w.cell? ⟨B, q, none⟩ = some (.int .u8 ((dig (x / 16 ^ t % 16) : Nat) : Int)) := by
  obtain ⟨cs, h1, h2, h3⟩ := H
  rw [cell_of_row w B q cs 228 (0, 0) h1, ← h3 t ht, show 64 - t = q by omega]
theorem dig36 (q : Nat) (h : q < 16) (h' : q < ByteArray.size ⟨#[48, 49, 50, 51, 52, 53, 54, 55, 56, 57, 97, 98, 99, 100, 101, 102, 103, 104, 105, 106, 107, 108, 109, 110, 111, 112, 113, 114, 115, 116, 117, 118, 119, 120, 121, 122]⟩) : (ByteArray.get ⟨#[48, 49, 50, 51, 52, 53, 54, 55, 56, 57, 97, 98, 99, 100, 101, 102, 103, 104, 105, 106, 107, 108, 109, 110, 111, 112, 113, 114, 115, 116, 117, 118, 119, 120, 121, 122]⟩ q h').toNat = dig q := by
  have : ∀ q : Fin 16, (ByteArray.get ⟨#[48, 49, 50, 51, 52, 53, 54, 55, 56, 57, 97, 98, 99, 100, 101, 102, 103, 104, 105, 106, 107, 108, 109, 110, 111, 112, 113, 114, 115, 116, 117, 118, 119, 120, 121, 122]⟩ q.1 (Nat.lt_of_lt_of_le q.2 (by decide))).toNat = dig q.1 := by decide
  exact this ⟨q, h⟩
theorem conv_bits (w : World) (B j x : Nat) (H : BitsB w B (j + 1) x) (l : List Nat) (hl : l.length = j + 1) (hd : ∀ i, i < j + 1 → l.getD i 0 = dig (x / 16 ^ (j - i) % 16)) (q : Nat) (hq : q + j = 64) (n c : Nat) (hn : n = j + 1) : (convert 22 9 (.slice (some ⟨B, q, none⟩) n c)).run Tryz.prog w = .ok (.string (toB l)) w := by
  have := run_convert_bytes_back (P := Tryz.prog) w 22 9 5 ⟨B, q, none⟩ c (l.map UInt8.ofNat) under22 Tryz.underlying5 Tryz.underlying9 (fun i hi => by
    have hi' : i < l.length := by simpa using hi
    have h := H.cell (j - i) (by omega) (q + i) (by omega)
    rw [Addr.add_lit, h, ← hd i (by omega)]
    have hb : dig (x / 16 ^ (j - i) % 16) < 128 := dig_lt _ (Nat.mod_lt _ (by omega))
    rw [← hd i (by omega)] at hb
    simp [List.getD_eq_getElem?_getD, List.getElem?_eq_getElem hi'] at hb ⊢
    omega)
  rw [List.length_map, hl, ← hn] at this
  exact this
theorem hexB_at (x j : Nat) (hx : x < 65536) (h1 : x / 16 ^ j < 16) (h2 : j = 0 ∨ 16 ≤ x / 16 ^ (j - 1)) : (hexB x).length = j + 1 ∧ ∀ i, i < j + 1 → (hexB x).getD i 0 = dig (x / 16 ^ (j - i) % 16) := by
  have hj : j ≤ 3 := by
    refine Nat.le_of_not_lt fun l => ?_
    have e1 : 16 ^ 3 ≤ 16 ^ (j - 1) := Nat.pow_le_pow_right (by omega) (by omega)
    have e2 : x / 16 ^ (j - 1) ≤ x / 16 ^ 3 := Nat.div_le_div_left e1 (by omega)
    omega
  rcases (show j = 0 ∨ j = 1 ∨ j = 2 ∨ j = 3 by omega) with rfl | rfl | rfl | rfl
  · unfold hexB
    simp at h1
    rw [if_neg (by omega), if_neg (by omega), if_neg (by omega)]
    exact ⟨rfl, fun i hi => by
      have : i = 0 := by omega
      subst this; simp⟩
  · unfold hexB
    simp at h1 h2
    rw [if_neg (by omega), if_neg (by omega), if_pos (by omega)]
    exact ⟨rfl, fun i hi => by
      rcases (show i = 0 ∨ i = 1 by omega) with rfl | rfl <;> simp⟩
  · unfold hexB
    simp at h1 h2
    rw [if_neg (by omega), if_pos (by omega)]
    exact ⟨rfl, fun i hi => by
      rcases (show i = 0 ∨ i = 1 ∨ i = 2 by omega) with rfl | rfl | rfl <;> simp⟩
  · unfold hexB
    simp at h1 h2
    rw [if_pos (by omega)]
    exact ⟨rfl, fun i hi => by
      rcases (show i = 0 ∨ i = 1 ∨ i = 2 ∨ i = 3 by omega) with rfl | rfl | rfl | rfl <;> simp <;> (try rw [show x / 4096 % 16 = x / 4096 by omega])⟩
theorem slice228 (B q : Nat) (hq : q ≤ 64) (w : World) : (Instr.sliceAt 228 (.pointer (some ⟨B, 0, none⟩)) (some (.int .i64 ((q : Nat) : Int))) none none).run Tryz.prog w = .ok (.slice (some ⟨B, q, none⟩) (65 - q) (65 - q)) w := by
  have h1 : (q : Int) ≤ 65 := by omega
  have h2 : ((65 : Int) - (q : Int)).toNat = 65 - q := by omega
  simp [Instr.sliceAt, go_sem, h1, h2]
  omega
theorem and15w (y : Nat) (hy : y < 65536) : bits .and .u64 (y : Int) 15 = ((y % 16 : Nat) : Int) := by
  have := u64_and_nat y 15 (by omega) (by omega)
  rw [show ((15 : Nat) : Int) = 15 from rfl] at this
  rw [this]
  have := Nat.and_two_pow_sub_one_eq_mod y 4
  rw [show (2 : Nat) ^ 4 - 1 = 15 from rfl, show (2 : Nat) ^ 4 = 16 from rfl] at this
  rw [this]
set_option maxRecDepth 100000 in
set_option maxHeartbeats 4000000 in
theorem c184 (x : Nat) (hx : x < 65536) (w : World) (T : Tabs w) : Calls Tryz.prog 184 #[.slice none 0 0, .int .u64 ((x : Nat) : Int), .int .i64 16, .bool false, .bool false] w fun e w' => ∃ v, e = .returned (.tuple #[v, .string (toB (hexB x))]) ∧ Hid ((∃ p n c, v = .slice p n c) ∧ Plus w w') := by
  have HT : Hid _ := T
  clear T
  go_enter Tryz.func184, Tryz.ntmps184

  go_wp2_with (first | (go_at_call 199; (with_reducible refine (c199 _).mono ?_); rintro e w' ⟨rfl, dd, oo, rfl⟩) | (go_at_call 200; (with_reducible refine (c200 _ (HT.out.chg (by (repeat (with_reducible first | exact Chg.refl _ _ | refine Chg.plus ?_ _ _ | refine Chg.alloc ?_ _ | refine Chg.drew ?_))))).mono ?_); rintro e w' ⟨rfl, dd, oo, rfl⟩))
  go_loopw [1, 13] (fun t1 t13 wr => ∃ j q u : Nat, t1 = .int .u64 ((u : Nat) : Int) ∧ t13 = .int .i64 ((q + 1 : Nat) : Int) ∧ q + j = 64 ∧ u ≤ x ∧ Hid (u = x / 16 ^ j ∧ (j = 0 ∨ 16 ≤ x / 16 ^ (j - 1)) ∧ Chg (fun _ => False) w wr ∧ BitsB wr w.heap.size j x))
    (fun t1 _ _ => (intOf t1).toNat)
  case atStart => exact ⟨0, 64, x, rfl, rfl, rfl, Nat.le_refl _, (Nat.div_one x).symm, .inl rfl, by (repeat (with_reducible first | exact Chg.refl _ _ | refine Chg.plus ?_ _ _ | refine Chg.alloc ?_ _ | refine Chg.drew ?_)), BitsB.chg (BitsB.new w x) (by (repeat (with_reducible first | exact Chg.refl _ _ | refine Chg.plus ?_ _ _ | refine Chg.alloc ?_ _ | refine Chg.drew ?_)))⟩
  case round =>
    obtain ⟨j, q, u, rfl, rfl, hqj, hux, X⟩ := hrel
    obtain ⟨W0, rfl⟩ : ∃ x, x = wr := ⟨_, rfl⟩
    obtain ⟨⟨v0, c0⟩, f0, hBl⟩ := X.out.2.2.2.at q (by omega)
    have hq1 : ((q + 1 : Nat) : Int) - 1 = (q : Int) := by omega
    by_cases hlt : 16 ≤ u
    · have hlt' : decide ((16 : Int) ≤ (u : Int)) = true := decide_eq_true (by omega)
      have ha := and15w u (by omega)
      have hd : u % 16 < 16 := Nat.mod_lt _ (by omega)
      have hd0 : (0 : Int) ≤ ((u % 16 : Nat) : Int) := by omega
      have hd1 : ((u % 16 : Nat) : Int) < 36 := by omega
      have hdg : ∀ h, (({ data := #[48, 49, 50, 51, 52, 53, 54, 55, 56, 57, 97, 98, 99, 100, 101, 102, 103, 104, 105, 106, 107, 108, 109, 110, 111, 112, 113, 114, 115, 116, 117, 118, 119, 120, 121, 122] } : ByteArray)[u % 16]'h).toNat = dig (u % 16) := fun h => dig36 _ hd h
      have hj2 : j ≤ 2 := by
        refine Nat.le_of_not_lt fun l => ?_
        have e1 : 16 ^ 3 ≤ 16 ^ j := Nat.pow_le_pow_right (by omega) l
        have e2 : x / 16 ^ j ≤ x / 16 ^ 3 := Nat.div_le_div_left e1 (by omega)
        have := X.out.1
        omega
      have HU : Hid (u / 16 = x / 16 ^ (j + 1)) := by unfold Hid; rw [X.out.1, Nat.div_div_eq_div_mul, Nat.pow_succ]
      go_wp2_with fail
      go_roundw
      case rel => exact ⟨j + 1, q - 1, u / 16, by go_num, by rw [show q - 1 + 1 = q by omega], by omega, by omega, HU.out, .inr (by rw [Nat.add_sub_cancel, ← X.out.1]; exact hlt), X.out.2.2.1.setCell _ _ (fun h => absurd h (Nat.lt_irrefl _)), X.out.2.2.2.set q (by omega) _ (by rw [X.out.1])⟩
      case measure => simp [intOf]; omega
    · have hlt' : decide ((16 : Int) ≤ (u : Int)) = false := decide_eq_false (by omega)
      have hdg : ∀ h, (({ data := #[48, 49, 50, 51, 52, 53, 54, 55, 56, 57, 97, 98, 99, 100, 101, 102, 103, 104, 105, 106, 107, 108, 109, 110, 111, 112, 113, 114, 115, 116, 117, 118, 119, 120, 121, 122] } : ByteArray)[u]'h).toNat = dig u := fun h => dig36 _ (by omega) h
      have HA := hexB_at x j hx (by rw [← X.out.1]; omega) X.out.2.1
      have HS : BitsB (W0.setCell ⟨w.heap.size, q, none⟩ (.int .u8 ((dig u : Nat) : Int))) w.heap.size (j + 1) x := X.out.2.2.2.set q (by omega) _ (by rw [← X.out.1, Nat.mod_eq_of_lt (by omega)])
      have hcv : ∀ c, (convert 22 9 (.slice (some ⟨w.heap.size, q, none⟩) (65 - q) c)).run Tryz.prog (W0.setCell ⟨w.heap.size, q, none⟩ (.int .u8 ((dig u : Nat) : Int))) = .ok (.string (toB (hexB x))) (W0.setCell ⟨w.heap.size, q, none⟩ (.int .u8 ((dig u : Nat) : Int))) := fun c => conv_bits _ _ j x HS _ HA.1 HA.2 q (by omega) _ c (by omega)
      have HC : Hid (Chg (fun _ => False) w W0) := X.out.2.2.1
      have hsl := slice228 w.heap.size q (by omega)
      clear X HA HS
      go_wp2_with fail
      go_ret2
      exact ⟨_, rfl, ⟨_, _, _, rfl⟩, (HC.out.setCell _ _ (fun h => absurd h (Nat.lt_irrefl _))).plus_of (fun _ _ => id)⟩
theorem c158 (x : Nat) (hx : x < 65536) (w : World) (T : Tabs w) : Calls Tryz.prog 158 #[.int .u64 ((x : Nat) : Int), .int .i64 16] w fun e w' => e = .returned (.string (toB (hexB x))) ∧ Plus w w' := by
  have HT : Hid _ := T
  clear T
  go_enter Tryz.func158, Tryz.ntmps158

  go_wp2_with fail
  refine (c184 x hx _ HT.out).mono ?_
  rintro e w' ⟨v, rfl, Z⟩
  obtain ⟨⟨p, n, c, rfl⟩, P⟩ := Z.out
  have HP : Hid _ := P
  clear Z P
  go_wp2_with fail
  go_ret
  exact ⟨rfl, HP.out⟩
theorem c119 (x : Nat) (hx : x < 65536) (w : World) (T : Tabs w) : Calls Tryz.prog 119 #[.int .u64 ((x : Nat) : Int), .int .i64 16] w fun e w' => e = .returned (.string (toB (hexB x))) ∧ Plus w w' := by
  have HT : Hid _ := T
  clear T
  go_enter Tryz.func119, Tryz.ntmps119

  go_wp2_with fail
  refine (c158 x hx _ HT.out).mono ?_
  rintro e w' ⟨rfl, P⟩
  have HP : Hid _ := P
  clear P
  go_wp2_with fail
  go_ret
  exact ⟨rfl, HP.out⟩
end Go.Proofs.YtmoabfpdlbngeaaGreatDoor
end
