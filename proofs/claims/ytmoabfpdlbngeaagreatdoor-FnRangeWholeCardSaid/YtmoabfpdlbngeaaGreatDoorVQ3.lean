/-
  Part of the proofs on the laws of pub-addresssets: joined texts (Q3, Q4, Q5).
-/
import Derived.Test.YtmoabfpdlbngeaaGreatDoorVQ1
section
namespace Go.Proofs.YtmoabfpdlbngeaaGreatDoor
open Go.RowKit
set_option maxHeartbeats 400000
set_option linter.unusedVariables false
set_option linter.unusedSimpArgs false
section
variable {α : Type} {D : Lay α} {E : TypeId} {w : World} {v : Value} {m k : Nat} {h f : Nat → α}
/-- APPEND, where rows may be longer. -/
theorem run_appendL (t ty : TypeId) (bytes : Nat) (I : InfoD D E bytes) (ht : Tryz.prog.underlying t = some (.slice E)) (hby : bytes ≤ 1000) (H : OwnDV D E w v m h) (x : Value) (hr : Rd D w x k f) (hsz : m + k ≤ 10000000000) :
    ∃ v' w', (Builtin.append_ #[t, t] ty #[v, x]).run Tryz.prog w = .ok v' w' ∧ OwnDV D E w' v' (m + k) (appF m h f) ∧ w.grownBy w' v.ownBlock ∧ (v'.ownBlock = v.ownBlock ∨ v'.ownBlock = some w.heap.size) := by
  obtain ⟨p, c, rfl, hkc, hr⟩ := hr
  rcases Nat.eq_zero_or_pos k with h0 | h0
  · subst h0
    rcases p with _ | ad
    · exact ⟨v, w, run_append_none t ty bytes I ht H c, H.congr (fun i hi => by unfold appF; rw [if_pos hi]), World.grownBy.refl w _, .inl rfl⟩
    · obtain ⟨i, z, hi, hz, h1, h2, h3⟩ := I
      obtain ⟨v', w', hrun, ho, hg, _, h5⟩ := run_append_own_at (P := Tryz.prog) w 0 t ty E i z D.c bytes ht hi hz h1 h2 h3 D.pos v m (cellsD D m h) H.owns ad 0 c [] (by simp) (by intro j u hu; simp at hu) (by intro u hu; cases hu) (by unfold maxLen; omega) (by have : (m + 0) * bytes ≤ 10000000000 * 1000 := Nat.mul_le_mul hsz hby; omega) (Nat.zero_le _)
      rw [List.append_nil] at ho
      exact ⟨v', w', hrun, (OwnDV.of (by simpa using ho) : OwnDV D E w' v' m h).congr (fun i hi => by unfold appF; rw [if_pos hi]), hg, h5⟩
  · obtain ⟨g, o, rfl, hr2⟩ := hr h0
    clear hr
    obtain ⟨i, z, hi, hz, h1, h2, h3⟩ := I
    obtain ⟨v', w', hrun, ho, hg, _, h5⟩ := run_append_own_at (P := Tryz.prog) w 0 t ty E i z D.c bytes ht hi hz h1 h2 h3 D.pos v m (cellsD D m h) H.owns ⟨g, o, none⟩ k c (cellsD D k f) (cellsD_len D k f) (cellsD_one hr2) (cellsD_cell D k f) (by unfold maxLen; omega) (by have : (m + k) * bytes ≤ 10000000000 * 1000 := Nat.mul_le_mul hsz hby; omega) (Nat.zero_le _)
    rw [cellsD_append] at ho
    exact ⟨v', w', hrun, .of ho, hg, h5⟩
theorem wp_appendL {o : Oper} {a : Act} {K : Act → World → Prop} {Q : Exit → Act → World → Prop} (s x : Operand) (t : TypeId) (bytes : Nat) (I : InfoD D E bytes) (ht : Tryz.prog.underlying t = some (.slice E)) (hby : bytes ≤ 1000)
    (ho : o.op = .call { callee := .builtin .append, args := #[s, x], argTypes := #[t, t] })
    (v : Value) (m : Nat) (h : Nat → α) (hs : a.eval s = v) (H : OwnDV D E w v m h) (k : Nat) (f : Nat → α) (hr : Rd D w (a.eval x) k f) (hsz : m + k ≤ 10000000000)
    (hK : ∀ p c w', Hid (OwnDV D E w' (.slice p (m + k) c) (m + k) (appF m h f)) → Chg (AtV v) w w' → Hid ((Value.slice p (m + k) c).ownBlock = v.ownBlock ∨ (Value.slice p (m + k) c).ownBlock = some w.heap.size) → K (a.put o.dst (.slice p (m + k) c)) w') : o.wp Tryz.prog a w K Q := by
  obtain ⟨v', w', hrun, h2, h3, h4⟩ := run_appendL t o.type bytes I ht hby H _ hr hsz
  obtain ⟨p, c, rfl, _⟩ := h2.form
  unfold Oper.wp execOp
  simp only [ho, resolve, invoke, builtin, Sem.run_bind, Sem.run_pure, Result.andThen_ok, List.map_toArray, List.map_cons, List.map_nil, hs, hrun]
  exact hK p c w' h2 ((Chg.refl _ w).grown h3 (fun k e _ => e)) h4
theorem appDL {ops : Array Oper} {rest : List Oper} {o : Oper} {a : Act} {Q : Exit → Act → World → Prop} (hgd : o.guard = none) (s x : Operand) (t : TypeId) (bytes : Nat) (I : InfoD D E bytes) (ht : Tryz.prog.underlying t = some (.slice E)) (hby : bytes ≤ 1000)
    (ho : o.op = .call { callee := .builtin .append, args := #[s, x], argTypes := #[t, t] })
    (v : Value) (m : Nat) (h : Nat → α) (hs : a.eval s = v) (H : OwnDV D E w v m h) (k : Nat) (f : Nat → α) (hr : Rd D w (a.eval x) k f) (hsz : m + k ≤ 10000000000)
    (hK : ∀ p c w', Hid (OwnDV D E w' (.slice p (m + k) c) (m + k) (appF m h f)) → Chg (AtV v) w w' → Hid ((Value.slice p (m + k) c).ownBlock = v.ownBlock ∨ (Value.slice p (m + k) c).ownBlock = some w.heap.size) → wpList Tryz.prog ops Q rest (a.put o.dst (.slice p (m + k) c)) w') : wpList Tryz.prog ops Q (o :: rest) a w :=
  wpList_plain hgd fun _ hK' => wp_appendL s x t bytes I ht hby ho v m h hs H k f hr hsz fun p c w' h1 h2 h3 => hK' _ _ (hK p c w' h1 h2 h3)
theorem stepDL {ops : Array Oper} {o : Oper} {a : Act} {K : Act → World → Prop} {Q : Exit → Act → World → Prop} {X : Prop} (hgd : o.guard = none) (s x : Operand) (t : TypeId) (bytes : Nat) (I : InfoD D E bytes) (ht : Tryz.prog.underlying t = some (.slice E)) (hby : bytes ≤ 1000)
    (ho : o.op = .call { callee := .builtin .append, args := #[s, x], argTypes := #[t, t] })
    (v : Value) (m : Nat) (h : Nat → α) (hs : a.eval s = v) (H : OwnDV D E w v m h) (k : Nat) (f : Nat → α) (hr : Rd D w (a.eval x) k f) (hsz : m + k ≤ 10000000000)
    (hK : ∀ p c w', Hid (OwnDV D E w' (.slice p (m + k) c) (m + k) (appF m h f)) → Chg (AtV v) w w' → Hid ((Value.slice p (m + k) c).ownBlock = v.ownBlock ∨ (Value.slice p (m + k) c).ownBlock = some w.heap.size) → K (a.put o.dst (.slice p (m + k) c)) w') :
    if Region.wanted o (yielded ops a.tmps) = true then Oper.wp Tryz.prog o a w K Q else X := by
  have hw : Region.wanted o (yielded ops a.tmps) = true := by simp [Region.wanted, hgd]
  rw [if_pos hw]
  exact wp_appendL s x t bytes I ht hby ho v m h hs H k f hr hsz hK
/-- MAKE with no elements. -/
theorem makeD {ops : Array Oper} {rest : List Oper} {o : Oper} {a : Act} {Q : Exit → Act → World → Prop} (hg : o.guard = none) (l c : Operand) (t : TypeId) (bytes : Nat) (I : InfoD D E bytes) (ht : Tryz.prog.underlying t = some (.slice E)) (hby : bytes ≤ 1000) (hop : o.op = Op.makeSlice t l c)
    (n : Nat) (hl : a.eval l = .int .i64 0) (hc : a.eval c = .int .i64 (n : Int)) (hn : n ≤ 1000000000) (h : Nat → α)
    (hK : ∀ w', Plus w w' → w.heap.size < w'.heap.size → Hid (OwnDV D E w' (.slice (some ⟨w.heap.size, 0, none⟩) 0 n) 0 h) → wpList Tryz.prog ops Q rest (a.put o.dst (.slice (some ⟨w.heap.size, 0, none⟩) 0 n)) w') :
    wpList Tryz.prog ops Q (o :: rest) a w := by
  obtain ⟨i, z, hi, hz, h1, h2, h3⟩ := I
  refine wpList_plain hg fun K hK' => ?_
  have hb : n * bytes ≤ 1000000000 * 1000 := Nat.mul_le_mul hn hby
  have hb' : (n : Int) * (bytes : Int) ≤ 1000000000000 := by
    have : ((n * bytes : Nat) : Int) ≤ 1000000000000 := by omega
    rwa [Int.natCast_mul] at this
  have hrun := run_make (P := Tryz.prog) w t E i z ht hi hz .i64 .i64 0 (n : Int) (by omega) (by omega) (by rw [h2, Int.mul_comm]; omega) (by omega)
  simp only [Int.toNat_natCast] at hrun
  unfold Oper.wp
  simp only [execOp, hop, hl, hc, hrun, Sem.run_bind, Result.andThen]
  refine hK' _ _ (hK _ (Plus.alloc (Plus.refl w) _) (by simp) (.inr ⟨_, n, rfl, ⟨⟨_, heap_alloc_new w _, ?_⟩, Nat.zero_le _, by unfold maxLen; omega, fun i hi => by omega⟩⟩))
  rw [size_madeCells, h1]
end
def vK (k : Nat) : Nat := hN k * 18446744073709551616 + lN k
theorem vK6 (k : Nat) (s : 8589934592 ≤ k) : vK k + 8589934592 = k := by
  unfold vK hN lN
  rw [if_pos s, if_pos s]
  omega
theorem vK4 (k : Nat) (s : ¬ 8589934592 ≤ k) : vK k = 281470681743360 + k := by
  unfold vK hN lN
  rw [if_neg s, if_neg s]
  omega
theorem k108 (k : Nat) (o : okK k) (w : World) : Calls Tryz.prog 108 #[.agg #[.int .u8 (hK k / 72057594037927936 % 256), .int .u8 (hK k / 281474976710656 % 256), .int .u8 (hK k / 1099511627776 % 256), .int .u8 (hK k / 4294967296 % 256), .int .u8 (hK k / 16777216 % 256), .int .u8 (hK k / 65536 % 256), .int .u8 (hK k / 256 % 256), .int .u8 (hK k % 256), .int .u8 (lK k / 72057594037927936 % 256), .int .u8 (lK k / 281474976710656 % 256), .int .u8 (lK k / 1099511627776 % 256), .int .u8 (lK k / 4294967296 % 256), .int .u8 (lK k / 16777216 % 256), .int .u8 (lK k / 65536 % 256), .int .u8 (lK k / 256 % 256), .int .u8 (lK k % 256)]] w fun e w' => e = .returned (.agg #[.int .u64 ((hN k : Nat) : Int), .int .u64 ((lN k : Nat) : Int)]) ∧ Plus w w' := by
  rw [← hK_N, ← lK_N]
  exact c108n (hK k) (lK k) (hK_in k o) (lK_in k o) w
theorem k109 (k : Nat) (w : World) : Calls Tryz.prog 109 #[.agg #[.int .u64 (hK k), .int .u64 (lK k), .bool true, .bool (sK k), .string ⟨#[]⟩]] w fun e w' => e = .returned (.agg #[.int .u8 (hK k / 72057594037927936 % 256), .int .u8 (hK k / 281474976710656 % 256), .int .u8 (hK k / 1099511627776 % 256), .int .u8 (hK k / 4294967296 % 256), .int .u8 (hK k / 16777216 % 256), .int .u8 (hK k / 65536 % 256), .int .u8 (hK k / 256 % 256), .int .u8 (hK k % 256), .int .u8 (lK k / 72057594037927936 % 256), .int .u8 (lK k / 281474976710656 % 256), .int .u8 (lK k / 1099511627776 % 256), .int .u8 (lK k / 4294967296 % 256), .int .u8 (lK k / 16777216 % 256), .int .u8 (lK k / 65536 % 256), .int .u8 (lK k / 256 % 256), .int .u8 (lK k % 256)]) ∧ Plus w w' := c109 _ _ _ w
theorem vK_range (r : Nat × Nat) (o : okR r) : vK r.1 ≤ vK r.2 ∧ vK r.2 < 2 ^ 128 ∧ (sK r.1 = false → 281470681743360 ≤ vK r.1 ∧ vK r.2 < 281474976710656) := by
  have a := o.a; have b := o.b; have s := o.s; have l := o.le
  have h1 := hN_lt _ b
  have h2 := lN_lt _ b
  by_cases p : 8589934592 ≤ r.1
  · have e1 := vK6 r.1 p
    have e2 := vK6 r.2 (by omega)
    refine ⟨by omega, by unfold vK; omega, fun q => ?_⟩
    have : sK r.1 = true := decide_eq_true p
    rw [this] at q; cases q
  · have p2 : ¬ 8589934592 ≤ r.2 := by
      have e : sK r.1 = false := decide_eq_false p
      rw [e] at s
      exact of_decide_eq_false s.symm
    have e1 := vK4 r.1 p
    have e2 := vK4 r.2 p2
    unfold okK at a b
    exact ⟨by omega, by unfold vK; omega, fun _ => by omega⟩
set_option maxHeartbeats 1000000 in
theorem c112 (r : Nat × Nat) (or : okR r) (h : Nat → Nat × Nat) (w : World) : Calls Tryz.prog 112 #[.agg #[.int .u64 (hK r.1), .int .u64 (lK r.1), .bool true, .bool (sK r.1), .string ⟨#[]⟩, .int .u64 (hK r.2), .int .u64 (lK r.2), .bool true, .bool (sK r.2), .string ⟨#[]⟩], .slice none 0 0] w (PfR w (.slice none 0 0) 0 h (sK r.1) 128 (vK r.1) (vK r.2)) := by
  have o1 := or.a
  have o2 := or.b
  have OR : Hid _ := or
  go_enter Tryz.func112, Tryz.ntmps112

  go_wp2_with (first | (go_at_call 107; (with_reducible refine (k107 r or _).mono ?_); rintro e w' ⟨rfl, dd, oo, rfl⟩))
  refine wp_region_plus_tail 11 (by kernel_rfl) (by kernel_rfl) ?_
  simp only [List.take_succ_cons, List.take_zero, List.drop_succ_cons, List.drop_zero]
  repeat (go_big_quiet_step (first | (go_at_call 109; (with_reducible exact Calls.plus_of (k109 r.1 _))) | (go_at_call 109; (with_reducible exact Calls.plus_of (k109 r.2 _))) | (go_at_call 108; (with_reducible exact Calls.plus_of (k108 r.1 o1 _))) | (go_at_call 108; (with_reducible exact Calls.plus_of (k108 r.2 o2 _)))))
  refine wpQuiet_nil ?_
  intro _ hq
  obtain ⟨⟨dq, oq⟩, rfl⟩ := hq
  go_wp2_with fail
  obtain ⟨g1, g2, g3⟩ := vK_range r OR.out
  have hb := bdV_le 128 (vK r.1) (vK r.2)
  refine (c146 r (sK r.1) rfl OR.out.s.symm 128 (hN r.1) (lN r.1) (hN r.2) (lN r.2) (vK r.1) (vK r.2) rfl rfl (hN_lt _ o1) (lN_lt _ o1) (hN_lt _ o2) (lN_lt _ o2) g1 (by rw [Nat.div_eq_of_lt g2, Nat.div_eq_of_lt (by omega)]) (by omega) g3 (.slice none 0 0) 0 h (by omega) _ (.nil h)).mono ?_
  clear g1 g2 g3 hb
  rintro e w2 ⟨v', m, f, rfl, Y⟩
  obtain ⟨p1, c1, rfl, _⟩ := Y.out.2.1.form
  go_wp2_with fail
  go_ret
  have T := Y.out.2.1
  rw [Nat.zero_add] at T
  exact ⟨_, m, f, rfl, Chg.trans (by (repeat (with_reducible first | exact Chg.refl _ _ | refine Chg.plus ?_ _ _ | refine Chg.alloc ?_ _ | refine Chg.drew ?_))) Y.out.1, by rw [Nat.zero_add]; exact T, Y.out.2.2.1, Y.out.2.2.2.1, by
    rcases Y.out.2.2.2.2 with e | ⟨k, e, l⟩
    · rw [Nat.zero_add] at e; exact .inl e
    · rw [Nat.zero_add] at e; exact .inr ⟨k, e, by simp at l; omega⟩⟩
theorem c62 (r : Nat × Nat) (or : okR r) (h : Nat → Nat × Nat) (w : World) : Calls Tryz.prog 62 #[.agg #[.int .u64 (hK r.1), .int .u64 (lK r.1), .bool true, .bool (sK r.1), .string ⟨#[]⟩, .int .u64 (hK r.2), .int .u64 (lK r.2), .bool true, .bool (sK r.2), .string ⟨#[]⟩]] w (PfR w (.slice none 0 0) 0 h (sK r.1) 128 (vK r.1) (vK r.2)) := by
  go_enter Tryz.func62, Tryz.ntmps62

  go_wp2_with fail
  refine (c112 r or h _).mono ?_
  rintro e w2 ⟨v', m, f, rfl, Y⟩
  obtain ⟨p1, c1, rfl, _⟩ := Y.out.2.1.form
  go_wp2_with fail
  go_ret
  have T := Y.out.2.1
  rw [Nat.zero_add] at T
  exact ⟨_, m, f, rfl, Chg.trans (by (repeat (with_reducible first | exact Chg.refl _ _ | refine Chg.plus ?_ _ _ | refine Chg.alloc ?_ _ | refine Chg.drew ?_))) Y.out.1, by rw [Nat.zero_add]; exact T, Y.out.2.2.1, Y.out.2.2.2.1, by
    rcases Y.out.2.2.2.2 with e | ⟨k, e, l⟩
    · rw [Nat.zero_add] at e; exact .inl e
    · rw [Nat.zero_add] at e; exact .inr ⟨k, e, by simp at l; omega⟩⟩
end Go.Proofs.YtmoabfpdlbngeaaGreatDoor
end

section
namespace Go.Proofs.YtmoabfpdlbngeaaGreatDoor
open Go.RowKit
set_option maxHeartbeats 400000
set_option linter.unusedVariables false
set_option linter.unusedSimpArgs false
/-- The chains of the first i ranges, one behind the other: M prefixes, told by F. -/
inductive ChL (f : Nat → Nat × Nat) : Nat → Nat → (Nat → Nat × Nat) → Prop
  | nil (F : Nat → Nat × Nat) : ChL f 0 0 F
  | snoc {i M m : Nat} {F g : Nat → Nat × Nat} (H : ChL f i M F) (C : ChV (vK (f i).1) (vK (f i).2) m g) : ChL f (i + 1) (M + m) (appF M F (fun j => pfV (sK (f i).1) (g j)))
theorem ChL.uniq {f : Nat → Nat × Nat} {i M : Nat} {F : Nat → Nat × Nat} (H : ChL f i M F) : ∀ {M' : Nat} {F' : Nat → Nat × Nat}, ChL f i M' F' → M = M' ∧ ∀ j, j < M → F j = F' j := by
  induction H with
  | nil F =>
    intro M' F' H'
    cases H'
    exact ⟨rfl, fun j hj => by omega⟩
  | snoc H C ih =>
    intro M' F' H'
    cases H' with
    | snoc H2 C2 =>
      obtain ⟨e1, e2⟩ := ih H2
      obtain ⟨e3, e4⟩ := C.uniq C2
      subst e1 e3
      refine ⟨rfl, fun j hj => ?_⟩
      unfold appF
      split
      · exact e2 j (by assumption)
      · rename_i hjM
        exact congrArg (pfV _) (e4 _ (by omega))
theorem ChL.congr {f f' : Nat → Nat × Nat} {i M : Nat} {F : Nat → Nat × Nat} (H : ChL f i M F) (e : ∀ j, j < i → f j = f' j) : ChL f' i M F := by
  induction H with
  | nil F => exact .nil F
  | snoc H C ih =>
    rename_i i M m F g
    have e1 := e i (by omega)
    have := ChL.snoc (ih fun j hj => e j (by omega)) (m := m) (g := g) (by rw [← e1]; exact C)
    rwa [← e1] at this
/-- Each prefix of such a chain is one. -/
def okP (a : Nat × Nat) : Prop := okK a.1 ∧ a.2 ≤ lenK a.1 ∧ a.2 ≤ 128
theorem pfV_ok {r : Nat × Nat} (o : okR r) {m : Nat} {g : Nat → Nat × Nat} (C : ChV (vK r.1) (vK r.2) m g) (j : Nat) (hj : j < m) : okP (pfV (sK r.1) (g j)) := by
  obtain ⟨h1, h2, h3⟩ := vK_range r o
  have ge := C.ge j hj
  have ft := C.fit j hj
  have hp := Nat.two_pow_pos (g j).2
  have h128 : (2 : Nat) ^ 128 = 340282366920938463463374607431768211456 := rfl
  rw [h128] at h2
  cases hs : sK r.1
  · obtain ⟨q1, q2⟩ := h3 hs
    show okK ((g j).1 % 4294967296) ∧ 32 - (g j).2 ≤ lenK ((g j).1 % 4294967296) ∧ 32 - (g j).2 ≤ 128
    have : (g j).1 % 4294967296 < 4294967296 := Nat.mod_lt _ (by omega)
    refine ⟨.inl this, ?_, by omega⟩
    unfold lenK
    rw [if_neg (by omega)]; omega
  · show okK (8589934592 + (g j).1) ∧ 128 - (g j).2 ≤ lenK (8589934592 + (g j).1) ∧ 128 - (g j).2 ≤ 128
    refine ⟨.inr (by omega), ?_, by omega⟩
    unfold lenK
    rw [if_pos (by omega)]; omega
theorem ChL.ok {f : Nat → Nat × Nat} {i M : Nat} {F : Nat → Nat × Nat} (H : ChL f i M F) (o : ∀ j, j < i → okR (f j)) : ∀ j, j < M → okP (F j) := by
  induction H with
  | nil F => intro j hj; omega
  | snoc H C ih =>
    rename_i i M m F g
    intro j hj
    unfold appF
    by_cases h : j < M
    · rw [if_pos h]; exact ih (fun j hj => o j (by omega)) j h
    · rw [if_neg h]; exact pfV_ok (o i (by omega)) C (j - M) (by omega)
/-- What Prefixes hands back. -/
def PxP (w : World) (m : Nat) (h : Nat → Nat × Nat) (e : Ending) (w' : World) : Prop := ∃ p M c F, e = .returned (.slice p M c) ∧ Hid (Chg (fun _ => False) w w' ∧ OwnDV layP 93 w' (.slice p M c) M F ∧ ChL h m M F ∧ M ≤ 257 * m)
set_option maxHeartbeats 2000000 in
theorem c35 (P : Nat) (v : Value) (m : Nat) (h : Nat → Nat × Nat) (hm : m ≤ 20000000) (w : World) (K : SetAt w P v m h) : Calls Tryz.prog 35 #[.pointer (some ⟨P, 0, none⟩)] w (PxP w m h) := by
  obtain ⟨p, c, rfl⟩ := K.own.form
  have HK : Hid _ := K
  have cP := K.cell
  have hP := K.lt
  clear K
  go_enter Tryz.func35, Tryz.ntmps35

  go_wp2_with (at_make; refine makeD rfl _ _ 84 48 infoP under84 (by omega) rfl m rfl rfl (by omega) h ?_)
  intro w3 P3 hlt3 hG
  obtain ⟨d3, o3, rfl⟩ := P3
  have HG : Hid _ := hG
  clear hG
  go_wp2_with fail
  go_loopw [3, 17] (fun t3 t17 wr => ∃ (i M : Nat) (p0 : Option Addr) (c0 : Nat) (F : Nat → Nat × Nat), t17 = .int .i64 i ∧ t3 = .slice p0 M c0 ∧ i ≤ m ∧ M ≤ 257 * i ∧ Hid (Chg (fun _ => False) w wr ∧ OwnDV layP 93 wr (.slice p0 M c0) M F ∧ (∀ k, (Value.slice p0 M c0).ownBlock = some k → w.heap.size ≤ k) ∧ ChL h i M F))
    (fun _ t17 _ => m - (intOf t17).toNat)
  case atStart => exact ⟨0, 0, _, m, h, rfl, rfl, Nat.zero_le _, by omega, (Chg.refl _ w).plus _ _, HG.out, fun k e => by simp only [Value.ownBlock, Option.some.injEq] at e; omega, .nil h⟩
  case round =>
    clear HG cP hP hlt3
    obtain ⟨i, M, p0, c0, F, rfl, rfl, hi, hM, X⟩ := hrel
    by_cases hlt : i < m
    · have hrow : ∃ G, p = some ⟨G, 0, none⟩ ∧ wr.rangeAt G (i * 10) (rcL (h i)) ∧ m ≤ c := by
        rcases HK.out.own.chg X.out.1 (fun _ _ => id) with ⟨_, z⟩ | ⟨G, cap, e, H⟩
        · omega
        · simp only [Value.slice.injEq, true_and] at e
          have := H.row i hlt
          rw [Nat.zero_add] at this
          exact ⟨G, e.1, this, by rw [e.2]; exact H.le⟩
      obtain ⟨G, rfl, ra, la⟩ := hrow
      obtain ⟨ca0, ca1, ca2, ca3, ca4, ca5, ca6, ca7, ca8, ca9⟩ := rc_cells ra
      have hG : G < wr.heap.size := World.block_lt_of_cell? _ _ ca0
      have ok : okR (h i) := HK.out.can.ok i hlt
      clear ra
      go_wp2_with fail
      refine (c62 (h i) ok F _).mono ?_
      rintro e w2 ⟨v2, m2, g2, rfl, Y⟩
      obtain ⟨p2, c2, rfl, _⟩ := Y.out.2.1.form
      have HC1 : Hid (Chg (fun _ => False) wr w2) := Chg.trans (by (repeat (with_reducible first | exact Chg.refl _ _ | refine Chg.plus ?_ _ _ | refine Chg.alloc ?_ _ | refine Chg.drew ?_))) (chg_nil Y.out.1)
      have HR2 : Hid (Rd layP w2 (.slice p2 (0 + m2) c2) (0 + m2) (fun j => pfV (sK (h i).1) (g2 j))) := by have := Y.out.2.1.rd; rwa [appF_zero] at this
      have HCH := Y.out.2.2.1
      have hb2 : m2 ≤ 257 := Nat.le_trans Y.out.2.2.2.1 (bdV_le 128 _ _)
      have HCV : Hid (ChV (vK (h i).1) (vK (h i).2) m2 g2) := HCH
      clear Y HCH ca0 ca1 ca2 ca3 ca4 ca5 ca6 ca7 ca8 ca9
      go_wp2_with (at_builtin; refine appDL rfl (.tmp 21) (.tmp 23) 84 48 infoP under84 (by omega) rfl (.slice p0 M c0) M F rfl (OwnDV.chg X.out.2.1 (F := fun _ => False) (HC1.out.trans (by (repeat (with_reducible first | exact Chg.refl _ _ | refine Chg.plus ?_ _ _ | refine Chg.alloc ?_ _ | refine Chg.drew ?_)))) (fun _ _ => id)) m2 (fun j => pfV (sK (h i).1) (g2 j)) ?hr ?sz ?_)
      case hr =>
        have := HR2.out
        rw [Nat.zero_add] at this
        exact this.chg0 (by (repeat (with_reducible first | exact Chg.refl _ _ | refine Chg.plus ?_ _ _ | refine Chg.alloc ?_ _ | refine Chg.drew ?_)))
      case sz => omega
      intro p3 c3 w4 hO hC hat
      have HZ : Hid (Chg (fun _ => False) w w4 ∧ OwnDV layP 93 w4 (.slice p3 (M + m2) c3) (M + m2) (appF M F (fun j => pfV (sK (h i).1) (g2 j))) ∧ (∀ k, (Value.slice p3 (M + m2) c3).ownBlock = some k → w.heap.size ≤ k) ∧ ChL h (i + 1) (M + m2) (appF M F (fun j => pfV (sK (h i).1) (g2 j)))) := by
        refine ⟨Chg.app ((X.out.1.trans HC1.out).trans (by (repeat (with_reducible first | exact Chg.refl _ _ | refine Chg.plus ?_ _ _ | refine Chg.alloc ?_ _ | refine Chg.drew ?_)))) hC X.out.2.2.1, hO.out, fun k e => ?_, X.out.2.2.2.snoc HCV.out⟩
        rcases hat.out with q | q
        · exact X.out.2.2.1 k (by rw [← q]; exact e)
        · rw [q] at e
          have := X.out.1.size
          have := HC1.out.size
          simp only [Option.some.injEq] at e
          omega
      clear hO hC hat
      go_wp2_with fail
      go_roundw
      case rel => exact ⟨i + 1, M + m2, p3, c3, _, by go_num, rfl, by omega, by omega, HZ.out⟩
      case measure => simp [intOf]; omega
    · obtain rfl : i = m := by omega
      go_wp2_with fail
      go_ret
      exact ⟨_, M, _, F, rfl, X.out.1, X.out.2.1, X.out.2.2.2, hM⟩
end Go.Proofs.YtmoabfpdlbngeaaGreatDoor
end

section
namespace Go.Proofs.YtmoabfpdlbngeaaGreatDoor
open Go.RowKit
set_option maxHeartbeats 400000
set_option linter.unusedVariables false
set_option linter.unusedSimpArgs false
/-- Prefixes of ours, as rows. -/
def piL (a : Nat × Nat) : List Value := [.bool (sK a.1), .int .u64 (hK a.1), .int .u64 (mK a.1), .int .i64 ((a.2 : Nat) : Int)]
def layI : Lay (Nat × Nat) := ⟨piL, 4, fun _ => rfl, fun a u hu => by
  simp only [piL, List.mem_cons, List.not_mem_nil, or_false] at hu
  rcases hu with rfl | rfl | rfl | rfl <;> simp [Value.oneCell'], by omega⟩
theorem infoI : InfoD layI 47 32 := InfoD.mk (c := 4) rfl (by kernel_rfl)
theorem under26 : Tryz.prog.underlying 26 = some (.slice 47) := by kernel_rfl
theorem Rd.newPi {W : World} {B : Nat} (a : Nat × Nat) (hB : B = W.heap.size) : Rd layI (W.alloc (.cells #[.bool (sK a.1), .int .u64 (hK a.1), .int .u64 (mK a.1), .int .i64 ((a.2 : Nat) : Int)] 47)) (.slice (some ⟨B, 0, none⟩) 1 1) 1 (fun _ => a) := by
  subst hB
  exact Rd.new (D := layI) (E := 47) W _ a rfl
def PiP (w : World) (M : Nat) (F : Nat → Nat × Nat) (e : Ending) (w' : World) : Prop := ∃ p c, e = .returned (.slice p M c) ∧ Hid (Chg (fun _ => False) w w' ∧ OwnDV layI 47 w' (.slice p M c) M F)
set_option maxRecDepth 100000 in
set_option maxHeartbeats 4000000 in
theorem c34 (v0 : Value) (M : Nat) (F : Nat → Nat × Nat) (hM : M ≤ 5200000000) (w : World) (H : Rd layP w v0 M F) (ok : ∀ j, j < M → okP (F j)) : Calls Tryz.prog 34 #[v0] w (PiP w M F) := by
  obtain ⟨p, c, rfl, hMc, hr⟩ := H
  have HR : Hid _ := hr
  have HO : Hid _ := ok
  clear hr ok
  go_enter Tryz.func34, Tryz.ntmps34

  go_wp2_with fail
  go_loopw [3, 8] (fun t3 t8 wr => ∃ (i : Nat) (p0 : Option Addr) (c0 : Nat), t8 = .int .i64 i ∧ t3 = .slice p0 i c0 ∧ i ≤ M ∧ Hid (Chg (fun _ => False) w wr ∧ OwnDV layI 47 wr (.slice p0 i c0) i F ∧ ∀ k, (Value.slice p0 i c0).ownBlock = some k → w.heap.size ≤ k))
    (fun _ t8 _ => M - (intOf t8).toNat)
  case atStart => exact ⟨0, none, 0, rfl, rfl, Nat.zero_le _, .refl _ _, .nil _, fun k e => by simp [Value.ownBlock] at e⟩
  case round =>
    obtain ⟨i, p0, c0, rfl, rfl, hi, X⟩ := hrel
    by_cases hlt : i < M
    · obtain ⟨G, o, rfl, hrow⟩ := HR.out (by omega)
      have ra : wr.rangeAt G (o + i * 6) (pfL (F i).1 (F i).2) := rangeAt_chg X.out.1 (hrow i hlt) id
      obtain ⟨ca0, ca1, ca2, ca3, ca4, ca5⟩ := pf_cells ra
      have hG : G < wr.heap.size := World.block_lt_of_cell? _ _ ca0
      have OK : Hid (okP (F i)) := HO.out i hlt
      have ok1 : okK (F i).1 := OK.out.1
      have ok2 : (F i).2 ≤ 128 := OK.out.2.2
      clear hrow ra
      go_upto_region 4 with fail
      go_cut [5] from 10 to 20 (fun t5 wx => t5 = .pointer (some ⟨wr.heap.size, 0, none⟩) ∧ Hid (Chg (fun _ => False) wr wx ∧ wx.rangeAt wr.heap.size 0 (pfL (F i).1 (F i).2)))
      case first =>
        go_wp2_with fail
        go_meet
        case rel => exact ⟨rfl, by (repeat (with_reducible first | refine Chg.plus ?_ _ _ | refine Chg.alloc ?_ _ | refine Chg.drew ?_ | exact Chg.refl _ _)), newPf wr _ _ _ rfl⟩
      case rest =>
        obtain ⟨rfl, Z⟩ := hcut
        have HW : Hid (Chg (fun _ => False) wr wc) := Z.out.1
        have hlo : ∀ k, (Value.slice p0 i c0).ownBlock = some k → k < wr.heap.size := fun k e => X.out.2.1.lt e
        have ea : ∀ w', Chg (AtV (.slice p0 i c0)) wc w' → w'.rangeAt wr.heap.size 0 (pfL (F i).1 (F i).2) := fun w' q => rangeAt_chg q Z.out.2 (fun e => by have := hlo _ e; omega)
        have ea0 : ∀ w', Chg (AtV (.slice p0 i c0)) wc w' → w'.cell? ⟨wr.heap.size, 0, none⟩ = some (.int .u64 (hK (F i).1)) := fun w' q => (pf_cells (ea w' q)).1
        have ea1 : ∀ w', Chg (AtV (.slice p0 i c0)) wc w' → w'.cell? ⟨wr.heap.size, 1, none⟩ = some (.int .u64 (lK (F i).1)) := fun w' q => (pf_cells (ea w' q)).2.1
        have ea2 : ∀ w', Chg (AtV (.slice p0 i c0)) wc w' → w'.cell? ⟨wr.heap.size, 2, none⟩ = some (.bool true) := fun w' q => (pf_cells (ea w' q)).2.2.1
        have ea3 : ∀ w', Chg (AtV (.slice p0 i c0)) wc w' → w'.cell? ⟨wr.heap.size, 3, none⟩ = some (.bool (sK (F i).1)) := fun w' q => (pf_cells (ea w' q)).2.2.2.1
        have ea4 : ∀ w', Chg (AtV (.slice p0 i c0)) wc w' → w'.cell? ⟨wr.heap.size, 4, none⟩ = some (.string ⟨#[]⟩) := fun w' q => (pf_cells (ea w' q)).2.2.2.2.1
        have ea5 : ∀ w', Chg (AtV (.slice p0 i c0)) wc w' → w'.cell? ⟨wr.heap.size, 5, none⟩ = some (.int .u8 (((F i).2 : Nat) + 1 : Int)) := fun w' q => (pf_cells (ea w' q)).2.2.2.2.2
        have hOwn : Hid (OwnDV layI 47 wc (.slice p0 i c0) i F) := X.out.2.1.chg HW.out (fun _ _ => id)
        clear Z hlo ea ca0 ca1 ca2 ca3 ca4 ca5 hG
        go_upto_region 5 with fail
        go_region_held3 (fun w' => Chg (AtV (.slice p0 i c0)) wc w') (solve | (with_reducible assumption) | (repeat (with_reducible first | exact Chg.refl _ _ | refine Chg.plus ?_ _ _ | refine Chg.alloc ?_ _ | refine Chg.drew ?_ | assumption)) | (refine Chg.trans ?_ (by with_reducible assumption); repeat (with_reducible first | exact Chg.refl _ _ | refine Chg.plus ?_ _ _ | refine Chg.alloc ?_ _ | refine Chg.drew ?_ | assumption))) (first | (go_at_call 43; (with_reducible refine (k43 (F i).1 (F i).2 _).mono ?_); rintro e w' ⟨rfl, dd, oo, rfl⟩) | (go_at_call 31; (with_reducible refine (k31 (F i).1 ok1 _).mono ?_); rintro e w' ⟨rfl, dd, oo, rfl⟩) | (go_at_call 44; (with_reducible refine (k44 (F i).1 (F i).2 ok2 _).mono ?_); rintro e w' ⟨rfl, dd, oo, rfl⟩) | (refine stepDL rfl _ _ 26 32 infoI under26 (by omega) rfl (.slice p0 i c0) i F rfl ?hown 1 (fun _ => F i) ?hr ?sz ?_; (case hown => exact OwnDV.chg hOwn.out (F := fun _ => False) (by (repeat (with_reducible first | exact Chg.refl _ _ | refine Chg.plus ?_ _ _ | refine Chg.alloc ?_ _ | refine Chg.drew ?_))) (fun _ _ => id)); (case hr => exact Rd.newPi (F i) (by simp)); (case sz => omega); intro p3 c3 w' hO' hC' hat))
        have HZ : Hid (Chg (fun _ => False) w w' ∧ OwnDV layI 47 w' (.slice p3 (i + 1) c3) (i + 1) F ∧ ∀ k, (Value.slice p3 (i + 1) c3).ownBlock = some k → w.heap.size ≤ k) := by
          refine ⟨Chg.app ((X.out.1.trans HW.out).trans (by (repeat (with_reducible first | exact Chg.refl _ _ | refine Chg.plus ?_ _ _ | refine Chg.alloc ?_ _ | refine Chg.drew ?_)))) hC' X.out.2.2, OwnDV.congr hO'.out (fun j hj => ?_), fun k e => ?_⟩
          · unfold appF
            split
            · rfl
            · rw [show j = i by omega]
          · rcases hat.out with q | q
            · exact X.out.2.2 k (by rw [← q]; exact e)
            · rw [q] at e
              have := X.out.1.size
              have := HW.out.size
              simp at e
              omega
        clear hO' hC' hat ea0 ea1 ea2 ea3 ea4 ea5
        go_wp2_with fail
        go_roundw
        case rel => exact ⟨i + 1, p3, c3, by go_num, rfl, by omega, HZ.out⟩
        case measure => simp [intOf]; omega
    · obtain rfl : i = M := by omega
      go_wp2_with fail
      go_ret
      exact ⟨_, _, rfl, X.out.1, X.out.2.1⟩
end Go.Proofs.YtmoabfpdlbngeaaGreatDoor
end
