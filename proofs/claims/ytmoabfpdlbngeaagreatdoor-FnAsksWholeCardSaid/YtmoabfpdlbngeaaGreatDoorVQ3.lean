/-
  Part of the proofs on the laws of pub-addresssets: joined texts (Q3).
-/
import Derived.Test.YtmoabfpdlbngeaaGreatDoorVQ2
section
namespace Go.Proofs.YtmoabfpdlbngeaaGreatDoor
open Go.RowKit
set_option maxHeartbeats 400000
set_option linter.unusedVariables false
set_option linter.unusedSimpArgs false
section
variable {α : Type} {D : Lay α} {E : TypeId} {w : World} {v : Value} {m k : Nat} {h f : Nat → α}
/-- APPEND, where rows may be longer. -/
theorem run_appendL (t ty : TypeId) (bytes : Nat) (I : InfoD D E bytes) (ht : Tryz.prog.underlying t = some (.slice E)) (hby : bytes ≤ 1000) (H : OwnDV D E w v m h) (x : Value) (hr : Rd D w x k f) (hsz : m + k ≤ 10000000000) :
    ∃ v' w', (Builtin.append_ #[t, t] ty #[v, x]).run Tryz.prog w = .ok v' w' ∧ OwnDV D E w' v' (m + k) (appF m h f) ∧ w.grownBy w' v.ownBlock ∧ (v'.ownBlock = v.ownBlock ∨ v'.ownBlock = some w.heap.size) := by
  obtain ⟨p, c, rfl, hkc, hr⟩ := hr
  rcases Nat.eq_zero_or_pos k with h0 | h0
  · subst h0
    rcases p with _ | ad
    · exact ⟨v, w, run_append_none t ty bytes I ht H c, H.congr (fun i hi => by unfold appF; rw [if_pos hi]), World.grownBy.refl w _, .inl rfl⟩
    · obtain ⟨i, z, hi, hz, h1, h2, h3⟩ := I
      obtain ⟨v', w', hrun, ho, hg, _, h5⟩ := run_append_own_at (P := Tryz.prog) w 0 t ty E i z D.c bytes ht hi hz h1 h2 h3 D.pos v m (cellsD D m h) H.owns ad 0 c [] (by simp) (by intro j u hu; simp at hu) (by intro u hu; cases hu) (by unfold maxLen; omega) (by have : (m + 0) * bytes ≤ 10000000000 * 1000 := Nat.mul_le_mul hsz hby; omega) (Nat.zero_le _)
      rw [List.append_nil] at ho
      exact ⟨v', w', hrun, (OwnDV.of (by simpa using ho) : OwnDV D E w' v' m h).congr (fun i hi => by unfold appF; rw [if_pos hi]), hg, h5⟩
  · obtain ⟨g, o, rfl, hr2⟩ := hr h0
    clear hr
    obtain ⟨i, z, hi, hz, h1, h2, h3⟩ := I
    obtain ⟨v', w', hrun, ho, hg, _, h5⟩ := run_append_own_at (P := Tryz.prog) w 0 t ty E i z D.c bytes ht hi hz h1 h2 h3 D.pos v m (cellsD D m h) H.owns ⟨g, o, none⟩ k c (cellsD D k f) (cellsD_len D k f) (cellsD_one hr2) (cellsD_cell D k f) (by unfold maxLen; omega) (by have : (m + k) * bytes ≤ 10000000000 * 1000 := Nat.mul_le_mul hsz hby; omega) (Nat.zero_le _)
    rw [cellsD_append] at ho
    exact ⟨v', w', hrun, .of ho, hg, h5⟩
theorem wp_appendL {o : Oper} {a : Act} {K : Act → World → Prop} {Q : Exit → Act → World → Prop} (s x : Operand) (t : TypeId) (bytes : Nat) (I : InfoD D E bytes) (ht : Tryz.prog.underlying t = some (.slice E)) (hby : bytes ≤ 1000)
    (ho : o.op = .call { callee := .builtin .append, args := #[s, x], argTypes := #[t, t] })
    (v : Value) (m : Nat) (h : Nat → α) (hs : a.eval s = v) (H : OwnDV D E w v m h) (k : Nat) (f : Nat → α) (hr : Rd D w (a.eval x) k f) (hsz : m + k ≤ 10000000000)
    (hK : ∀ p c w', Hid (OwnDV D E w' (.slice p (m + k) c) (m + k) (appF m h f)) → Chg (AtV v) w w' → Hid ((Value.slice p (m + k) c).ownBlock = v.ownBlock ∨ (Value.slice p (m + k) c).ownBlock = some w.heap.size) → K (a.put o.dst (.slice p (m + k) c)) w') : o.wp Tryz.prog a w K Q := by
  obtain ⟨v', w', hrun, h2, h3, h4⟩ := run_appendL t o.type bytes I ht hby H _ hr hsz
  obtain ⟨p, c, rfl, _⟩ := h2.form
  unfold Oper.wp execOp
  simp only [ho, resolve, invoke, builtin, Sem.run_bind, Sem.run_pure, Result.andThen_ok, List.map_toArray, List.map_cons, List.map_nil, hs, hrun]
  exact hK p c w' h2 ((Chg.refl _ w).grown h3 (fun k e _ => e)) h4
theorem appDL {ops : Array Oper} {rest : List Oper} {o : Oper} {a : Act} {Q : Exit → Act → World → Prop} (hgd : o.guard = none) (s x : Operand) (t : TypeId) (bytes : Nat) (I : InfoD D E bytes) (ht : Tryz.prog.underlying t = some (.slice E)) (hby : bytes ≤ 1000)
    (ho : o.op = .call { callee := .builtin .append, args := #[s, x], argTypes := #[t, t] })
    (v : Value) (m : Nat) (h : Nat → α) (hs : a.eval s = v) (H : OwnDV D E w v m h) (k : Nat) (f : Nat → α) (hr : Rd D w (a.eval x) k f) (hsz : m + k ≤ 10000000000)
    (hK : ∀ p c w', Hid (OwnDV D E w' (.slice p (m + k) c) (m + k) (appF m h f)) → Chg (AtV v) w w' → Hid ((Value.slice p (m + k) c).ownBlock = v.ownBlock ∨ (Value.slice p (m + k) c).ownBlock = some w.heap.size) → wpList Tryz.prog ops Q rest (a.put o.dst (.slice p (m + k) c)) w') : wpList Tryz.prog ops Q (o :: rest) a w :=
  wpList_plain hgd fun _ hK' => wp_appendL s x t bytes I ht hby ho v m h hs H k f hr hsz fun p c w' h1 h2 h3 => hK' _ _ (hK p c w' h1 h2 h3)
theorem stepDL {ops : Array Oper} {o : Oper} {a : Act} {K : Act → World → Prop} {Q : Exit → Act → World → Prop} {X : Prop} (hgd : o.guard = none) (s x : Operand) (t : TypeId) (bytes : Nat) (I : InfoD D E bytes) (ht : Tryz.prog.underlying t = some (.slice E)) (hby : bytes ≤ 1000)
    (ho : o.op = .call { callee := .builtin .append, args := #[s, x], argTypes := #[t, t] })
    (v : Value) (m : Nat) (h : Nat → α) (hs : a.eval s = v) (H : OwnDV D E w v m h) (k : Nat) (f : Nat → α) (hr : Rd D w (a.eval x) k f) (hsz : m + k ≤ 10000000000)
    (hK : ∀ p c w', Hid (OwnDV D E w' (.slice p (m + k) c) (m + k) (appF m h f)) → Chg (AtV v) w w' → Hid ((Value.slice p (m + k) c).ownBlock = v.ownBlock ∨ (Value.slice p (m + k) c).ownBlock = some w.heap.size) → K (a.put o.dst (.slice p (m + k) c)) w') :
    if Region.wanted o (yielded ops a.tmps) = true then Oper.wp Tryz.prog o a w K Q else X := by
  have hw : Region.wanted o (yielded ops a.tmps) = true := by simp [Region.wanted, hgd]
  rw [if_pos hw]
  exact wp_appendL s x t bytes I ht hby ho v m h hs H k f hr hsz hK
/-- MAKE with no elements. -/
theorem makeD {ops : Array Oper} {rest : List Oper} {o : Oper} {a : Act} {Q : Exit → Act → World → Prop} (hg : o.guard = none) (l c : Operand) (t : TypeId) (bytes : Nat) (I : InfoD D E bytes) (ht : Tryz.prog.underlying t = some (.slice E)) (hby : bytes ≤ 1000) (hop : o.op = Op.makeSlice t l c)
    (n : Nat) (hl : a.eval l = .int .i64 0) (hc : a.eval c = .int .i64 (n : Int)) (hn : n ≤ 1000000000) (h : Nat → α)
    (hK : ∀ w', Plus w w' → w.heap.size < w'.heap.size → Hid (OwnDV D E w' (.slice (some ⟨w.heap.size, 0, none⟩) 0 n) 0 h) → wpList Tryz.prog ops Q rest (a.put o.dst (.slice (some ⟨w.heap.size, 0, none⟩) 0 n)) w') :
    wpList Tryz.prog ops Q (o :: rest) a w := by
  obtain ⟨i, z, hi, hz, h1, h2, h3⟩ := I
  refine wpList_plain hg fun K hK' => ?_
  have hb : n * bytes ≤ 1000000000 * 1000 := Nat.mul_le_mul hn hby
  have hb' : (n : Int) * (bytes : Int) ≤ 1000000000000 := by
    have : ((n * bytes : Nat) : Int) ≤ 1000000000000 := by omega
    rwa [Int.natCast_mul] at this
  have hrun := run_make (P := Tryz.prog) w t E i z ht hi hz .i64 .i64 0 (n : Int) (by omega) (by omega) (by rw [h2, Int.mul_comm]; omega) (by omega)
  simp only [Int.toNat_natCast] at hrun
  unfold Oper.wp
  simp only [execOp, hop, hl, hc, hrun, Sem.run_bind, Result.andThen]
  refine hK' _ _ (hK _ (Plus.alloc (Plus.refl w) _) (by simp) (.inr ⟨_, n, rfl, ⟨⟨_, heap_alloc_new w _, ?_⟩, Nat.zero_le _, by unfold maxLen; omega, fun i hi => by omega⟩⟩))
  rw [size_madeCells, h1]
end
def vK (k : Nat) : Nat := hN k * 18446744073709551616 + lN k
theorem vK6 (k : Nat) (s : 8589934592 ≤ k) : vK k + 8589934592 = k := by
  unfold vK hN lN
  rw [if_pos s, if_pos s]
  omega
theorem vK4 (k : Nat) (s : ¬ 8589934592 ≤ k) : vK k = 281470681743360 + k := by
  unfold vK hN lN
  rw [if_neg s, if_neg s]
  omega
theorem k108 (k : Nat) (o : okK k) (w : World) : Calls Tryz.prog 108 #[.agg #[.int .u8 (hK k / 72057594037927936 % 256), .int .u8 (hK k / 281474976710656 % 256), .int .u8 (hK k / 1099511627776 % 256), .int .u8 (hK k / 4294967296 % 256), .int .u8 (hK k / 16777216 % 256), .int .u8 (hK k / 65536 % 256), .int .u8 (hK k / 256 % 256), .int .u8 (hK k % 256), .int .u8 (lK k / 72057594037927936 % 256), .int .u8 (lK k / 281474976710656 % 256), .int .u8 (lK k / 1099511627776 % 256), .int .u8 (lK k / 4294967296 % 256), .int .u8 (lK k / 16777216 % 256), .int .u8 (lK k / 65536 % 256), .int .u8 (lK k / 256 % 256), .int .u8 (lK k % 256)]] w fun e w' => e = .returned (.agg #[.int .u64 ((hN k : Nat) : Int), .int .u64 ((lN k : Nat) : Int)]) ∧ Plus w w' := by
  rw [← hK_N, ← lK_N]
  exact c108n (hK k) (lK k) (hK_in k o) (lK_in k o) w
theorem k109 (k : Nat) (w : World) : Calls Tryz.prog 109 #[.agg #[.int .u64 (hK k), .int .u64 (lK k), .bool true, .bool (sK k), .string ⟨#[]⟩]] w fun e w' => e = .returned (.agg #[.int .u8 (hK k / 72057594037927936 % 256), .int .u8 (hK k / 281474976710656 % 256), .int .u8 (hK k / 1099511627776 % 256), .int .u8 (hK k / 4294967296 % 256), .int .u8 (hK k / 16777216 % 256), .int .u8 (hK k / 65536 % 256), .int .u8 (hK k / 256 % 256), .int .u8 (hK k % 256), .int .u8 (lK k / 72057594037927936 % 256), .int .u8 (lK k / 281474976710656 % 256), .int .u8 (lK k / 1099511627776 % 256), .int .u8 (lK k / 4294967296 % 256), .int .u8 (lK k / 16777216 % 256), .int .u8 (lK k / 65536 % 256), .int .u8 (lK k / 256 % 256), .int .u8 (lK k % 256)]) ∧ Plus w w' := c109 _ _ _ w
theorem vK_range (r : Nat × Nat) (o : okR r) : vK r.1 ≤ vK r.2 ∧ vK r.2 < 2 ^ 128 ∧ (sK r.1 = false → 281470681743360 ≤ vK r.1 ∧ vK r.2 < 281474976710656) := by
  have a := o.a; have b := o.b; have s := o.s; have l := o.le
  have h1 := hN_lt _ b
  have h2 := lN_lt _ b
  by_cases p : 8589934592 ≤ r.1
  · have e1 := vK6 r.1 p
    have e2 := vK6 r.2 (by omega)
    refine ⟨by omega, by unfold vK; omega, fun q => ?_⟩
    have : sK r.1 = true := decide_eq_true p
    rw [this] at q; cases q
  · have p2 : ¬ 8589934592 ≤ r.2 := by
      have e : sK r.1 = false := decide_eq_false p
      rw [e] at s
      exact of_decide_eq_false s.symm
    have e1 := vK4 r.1 p
    have e2 := vK4 r.2 p2
    unfold okK at a b
    exact ⟨by omega, by unfold vK; omega, fun _ => by omega⟩
set_option maxHeartbeats 1000000 in
theorem c112 (r : Nat × Nat) (or : okR r) (h : Nat → Nat × Nat) (w : World) : Calls Tryz.prog 112 #[.agg #[.int .u64 (hK r.1), .int .u64 (lK r.1), .bool true, .bool (sK r.1), .string ⟨#[]⟩, .int .u64 (hK r.2), .int .u64 (lK r.2), .bool true, .bool (sK r.2), .string ⟨#[]⟩], .slice none 0 0] w (PfR w (.slice none 0 0) 0 h (sK r.1) 128 (vK r.1) (vK r.2)) := by
  have o1 := or.a
  have o2 := or.b
  have OR : Hid _ := or
  go_enter Tryz.func112, Tryz.ntmps112

  go_wp2_with (first | (go_at_call 107; (with_reducible refine (k107 r or _).mono ?_); rintro e w' ⟨rfl, dd, oo, rfl⟩))
  refine wp_region_plus_tail 11 (by kernel_rfl) (by kernel_rfl) ?_
  simp only [List.take_succ_cons, List.take_zero, List.drop_succ_cons, List.drop_zero]
  repeat (go_big_quiet_step (first | (go_at_call 109; (with_reducible exact Calls.plus_of (k109 r.1 _))) | (go_at_call 109; (with_reducible exact Calls.plus_of (k109 r.2 _))) | (go_at_call 108; (with_reducible exact Calls.plus_of (k108 r.1 o1 _))) | (go_at_call 108; (with_reducible exact Calls.plus_of (k108 r.2 o2 _)))))
  refine wpQuiet_nil ?_
  intro _ hq
  obtain ⟨⟨dq, oq⟩, rfl⟩ := hq
  go_wp2_with fail
  obtain ⟨g1, g2, g3⟩ := vK_range r OR.out
  have hb := bdV_le 128 (vK r.1) (vK r.2)
  refine (c146 r (sK r.1) rfl OR.out.s.symm 128 (hN r.1) (lN r.1) (hN r.2) (lN r.2) (vK r.1) (vK r.2) rfl rfl (hN_lt _ o1) (lN_lt _ o1) (hN_lt _ o2) (lN_lt _ o2) g1 (by rw [Nat.div_eq_of_lt g2, Nat.div_eq_of_lt (by omega)]) (by omega) g3 (.slice none 0 0) 0 h (by omega) _ (.nil h)).mono ?_
  clear g1 g2 g3 hb
  rintro e w2 ⟨v', m, f, rfl, Y⟩
  obtain ⟨p1, c1, rfl, _⟩ := Y.out.2.1.form
  go_wp2_with fail
  go_ret
  have T := Y.out.2.1
  rw [Nat.zero_add] at T
  exact ⟨_, m, f, rfl, Chg.trans (by (repeat (with_reducible first | exact Chg.refl _ _ | refine Chg.plus ?_ _ _ | refine Chg.alloc ?_ _ | refine Chg.drew ?_))) Y.out.1, by rw [Nat.zero_add]; exact T, Y.out.2.2.1, Y.out.2.2.2.1, by
    rcases Y.out.2.2.2.2 with e | ⟨k, e, l⟩
    · rw [Nat.zero_add] at e; exact .inl e
    · rw [Nat.zero_add] at e; exact .inr ⟨k, e, by simp at l; omega⟩⟩
theorem c62 (r : Nat × Nat) (or : okR r) (h : Nat → Nat × Nat) (w : World) : Calls Tryz.prog 62 #[.agg #[.int .u64 (hK r.1), .int .u64 (lK r.1), .bool true, .bool (sK r.1), .string ⟨#[]⟩, .int .u64 (hK r.2), .int .u64 (lK r.2), .bool true, .bool (sK r.2), .string ⟨#[]⟩]] w (PfR w (.slice none 0 0) 0 h (sK r.1) 128 (vK r.1) (vK r.2)) := by
  go_enter Tryz.func62, Tryz.ntmps62

  go_wp2_with fail
  refine (c112 r or h _).mono ?_
  rintro e w2 ⟨v', m, f, rfl, Y⟩
  obtain ⟨p1, c1, rfl, _⟩ := Y.out.2.1.form
  go_wp2_with fail
  go_ret
  have T := Y.out.2.1
  rw [Nat.zero_add] at T
  exact ⟨_, m, f, rfl, Chg.trans (by (repeat (with_reducible first | exact Chg.refl _ _ | refine Chg.plus ?_ _ _ | refine Chg.alloc ?_ _ | refine Chg.drew ?_))) Y.out.1, by rw [Nat.zero_add]; exact T, Y.out.2.2.1, Y.out.2.2.2.1, by
    rcases Y.out.2.2.2.2 with e | ⟨k, e, l⟩
    · rw [Nat.zero_add] at e; exact .inl e
    · rw [Nat.zero_add] at e; exact .inr ⟨k, e, by simp at l; omega⟩⟩
end Go.Proofs.YtmoabfpdlbngeaaGreatDoor
end
