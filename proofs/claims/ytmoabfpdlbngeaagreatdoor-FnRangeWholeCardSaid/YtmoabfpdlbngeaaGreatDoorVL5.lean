/-
  The Go function laws.FnRangeWhole returns true at every input and leaves its arguments as they read.
  Conditions: three tables of the library (math/bits.deBruijn32tab, math/bits.deBruijn64tab, internal/strconv.uint64pow10) hold, when the call begins, what the program's text lays (the card ties that to the text). The proof reads the last two.
-/
import Derived.Test.YtmoabfpdlbngeaaGreatDoorVU24
import Derived.Test.YtmoabfpdlbngeaaGreatDoorVU24
import Derived.Test.YtmoabfpdlbngeaaGreatDoorCards
import Derived.Test.YtmoabfpdlbngeaaGreatDoorTie
import Derived.WalkKit
import Derived.ProofKit
import Derived.OpenShut
import Derived.ShutString
import Derived.ChangeOld
import Derived.LaidMore
import Derived.SizedLaws
import Derived.SevenTiedAt
import Derived.Below
namespace Go.Proofs.YtmoabfpdlbngeaaGreatDoor
open Go.ChangeShapes Go.WideShapes Go.ChangeAt Go.RowKit
open Go.ChangeMaps (open_string shut_string)
set_option linter.unusedVariables false
set_option linter.unusedSimpArgs false

theorem own : ownKnob Tryz.prog.godebug = none := by kernel_rfl
theorem laidOut : laidOutB Tryz.prog = true := by kernel_rfl
abbrev laid3 : List (String × DataW Unit) := [("math/bits.deBruijn32tab", Rows.laid_math_bits_deBruijn32tab), ("math/bits.deBruijn64tab", Rows.laid_math_bits_deBruijn64tab), ("internal/strconv.uint64pow10", Rows.laid_internal_strconv_uint64pow10)]
theorem cells5 : Tryz.prog.cellsOf 5 = 1 := by kernel_rfl
theorem bytes5 : Tryz.prog.bytesOf 5 = 1 := by kernel_rfl

theorem chg_below {w w' : World} (h : Chg (fun _ => False) w w') : Below w.heap.size w w' := ⟨h.os, h.tape, h.output, h.size, fun k hk => h.block k hk (fun e => e)⟩

set_option maxRecDepth 100000 in
/-- A slice of bytes that came in, as the walk asks it. -/
theorem bytes_in {H : Type} {enc : TypeId × Value → H} {W : World} {base : Nat} {v : Value} {d : DataW H} {p : List MemPlace} (hval : Value.okWide Tryz.prog W .any base 22 v) (h : DataW.Trod enc Tryz.prog W 0 (fun _ => true) true 22 v d p)
    (hs : ∀ es sp, d = .slice es sp → (es.length + sp.length) * Tryz.prog.bytesOf 5 ≤ reachBytes) :
    ∃ (n : Nat) (f : Nat → Nat), n ≤ 140737488355328 ∧ Rd layB W v n f ∧ ∀ i, i < n → f i < 256 := by
  obtain ⟨a, len, cap, rfl⟩ := okWide_slice Tryz.underlying22 hval
  obtain ⟨fuel, hf⟩ := h
  rcases open_ints Tryz.underlying22 Tryz.underlying5 cells5 hf with ⟨hcs, _⟩ | ⟨x, l, c, zs, hcs, _, hl, hm, hz, hx, hcell, hwz⟩
  · simp [Value.cells] at hcs
    obtain ⟨rfl, rfl, rfl⟩ := hcs
    exact ⟨0, fun _ => 0, by omega, Rd.nil _, fun i hi => by omega⟩
  · simp [Value.cells] at hcs
    obtain ⟨rfl, rfl, rfl⟩ := hcs
    have hz' : zs.length = cap := by simpa using hz
    have hb := range_u8 hwz
    have hw := hs _ _ (congrArg Prod.fst hx)
    rw [bytes5] at hw
    have hlen : len ≤ 140737488355328 := by
      simp only [lits, List.length_map, List.length_take, List.length_drop, reachBytes] at hw
      omega
    refine ⟨len, fun i => (zs.getD i 0).toNat, hlen, ⟨some x, cap, rfl, hl, fun hpos => ?_⟩, fun i hi => ?_⟩
    · obtain ⟨ab, ao, spot⟩ := x
      have hspot : spot = none := by simpa [Addr.add] using World.cell?_spot (hcell 0 (by omega))
      subst hspot
      refine ⟨ab, ao, rfl, fun i hi => ?_⟩
      intro j u hu
      have hc1 : layB.c = 1 := rfl
      match j, hu with
      | 0, hu =>
        simp only [layB, byL, List.getElem?_cons_zero, Option.some.injEq] at hu
        subst hu
        have hcj := hcell i (by omega)
        have hbi := hb i
        rw [List.getD_eq_getElem?_getD] at hcj
        rw [Addr.add_lit] at hcj
        rw [hc1, Nat.mul_one, Nat.add_zero, hcj, List.getD_eq_getElem?_getD]
        congr 2
        omega
      | j + 1, hu => simp [layB, byL] at hu
    · have hbi := hb i
      simp only [List.getD_eq_getElem?_getD]
      omega


set_option maxRecDepth 100000 in
theorem int_in {H : Type} {enc : TypeId × Value → H} {W : World} {base : Nat} {v : Value} {d : DataW H} {p : List MemPlace} (hval : Value.okWide Tryz.prog W .any base 5 v) (h : DataW.Trod enc Tryz.prog W 0 (fun _ => true) true 5 v d p) :
    ∃ n : Nat, n < 256 ∧ v = .int .u8 ((n : Nat) : Int) := by
  obtain ⟨n, rfl, _, _, hw⟩ := open_int Tryz.underlying5 hval h
  have hr : 0 ≤ n ∧ n < 256 := by
    have := bounds_u8 hw
    omega
  exact ⟨n.toNat, by omega, by rw [Int.toNat_of_nonneg hr.1]⟩

theorem mapM_at {A B : Type} {f : A → Option B} : ∀ (L : List A) (ys : List B), L.mapM f = some ys → ∀ a, a ∈ L → ∃ y, f a = some y
  | [], _, _, a, ha => by simp at ha
  | x :: L, ys, h, a, ha => by
    rw [List.mapM_cons] at h
    simp only [bind, Option.bind_eq_some_iff, pure, Option.some.injEq] at h
    obtain ⟨y, hy, ys', hys, _⟩ := h
    rcases List.mem_cons.1 ha with rfl | ha
    · exact ⟨y, hy⟩
    · exact mapM_at L ys' hys a ha
theorem cells55 : Tryz.prog.cellsOf 55 = 8 := by kernel_rfl
set_option maxRecDepth 100000 in
/-- An array of eight bytes that came in. -/
theorem arr8_in {H : Type} {enc : TypeId × Value → H} {W : World} {base : Nat} {v : Value} {d : DataW H} {p : List MemPlace} (hval : Value.okWide Tryz.prog W .any base 55 v) (h : DataW.Trod enc Tryz.prog W 0 (fun _ => true) true 55 v d p) :
    ∃ f : Nat → Int, (∀ i, i < 8 → 0 ≤ f i ∧ f i < 256) ∧ v = .agg #[.int .u8 (f 0), .int .u8 (f 1), .int .u8 (f 2), .int .u8 (f 3), .int .u8 (f 4), .int .u8 (f 5), .int .u8 (f 6), .int .u8 (f 7)] := by
  simp only [Value.okWide, Tryz.underlying55] at hval
  obtain ⟨cs, rfl, h2, _⟩ := hval
  rw [cells55] at h2
  obtain ⟨fuel, hf⟩ := h
  cases fuel with
  | zero => simp [DataW.trod] at hf
  | succ m =>
    rw [DataW.trod_step] at hf
    unfold DataW.trodStep at hf
    simp only [Tryz.underlying55, Value.cells] at hf
    rw [if_pos (by rw [cells55]; simpa using h2)] at hf
    simp only [Option.map_eq_some_iff] at hf
    obtain ⟨ys, hy, _⟩ := hf
    have main : ∀ i, i < 8 → ∃ a, cs[i]? = some (.int .u8 a) ∧ 0 ≤ a ∧ a < 256 := by
      intro i hi
      obtain ⟨y, q⟩ := mapM_at _ _ hy i (by simpa using hi)
      obtain ⟨a, ea, _, wa⟩ := DataW.trod_int Tryz.underlying5 q
      rw [cells5] at ea
      refine ⟨a, ?_, ?_⟩
      · have := congrArg (fun l => l[0]?) ea
        simpa [List.getElem?_take, List.getElem?_drop] using this
      · have := bounds_u8 wa
        omega
    have hex : ∃ f : Nat → Int, ∀ i, i < 8 → cs[i]? = some (.int .u8 (f i)) ∧ 0 ≤ f i ∧ f i < 256 :=
      ⟨fun i => if hi : i < 8 then (main i hi).choose else 0, fun i hi => by simp only [hi, dite_true]; exact (main i hi).choose_spec⟩
    obtain ⟨f, hfa⟩ := hex
    refine ⟨f, fun i hi => (hfa i hi).2, ?_⟩
    congr 1
    apply Array.ext_getElem?
    intro i
    by_cases hi : i < 8
    · rw [(hfa i hi).1]
      match i, hi with
      | 0, _ => rfl
      | 1, _ => rfl
      | 2, _ => rfl
      | 3, _ => rfl
      | 4, _ => rfl
      | 5, _ => rfl
      | 6, _ => rfl
      | 7, _ => rfl
    · rw [Array.getElem?_eq_none (by omega), Array.getElem?_eq_none (by simp; omega)]

/-- The door's own heap meets the condition. -/
theorem door_met (os : Os) (args : Array Value) : laidMetH Tryz.prog laid3 ((World.doorLaid Tryz.prog 400 os).forCall (fun _ _ => 0) ⟨#[], args, []⟩).memory :=
  laidMetH_of_parts3 (fuel := 8) (laidMet_of_run' 8 (by kernel_rfl) (by kernel_rfl)) (by kernel_rfl) (by kernel_rfl)

set_option maxRecDepth 100000 in
theorem fnRangeWhole_lifted (os : Os) (started : os.Started) (H : Type) (enc : TypeId × Value → H) :
    ReturnsInHanded {} Tryz.checked os 7 .any (fun w args => (Rows.fnRangeWholeSpec.pre enc Tryz.prog Tryz.f7 [] false w args ∧ laidMetH Tryz.prog laid3 w) ∧ sizedMet enc Tryz.prog Tryz.f7 (OpenSpec.ofChange Rows.fnRangeWholeSpec) false w args)
      (Rows.fnRangeWholeSpec.post enc Tryz.prog Tryz.f7 false true false false) := by
  refine returnsInHanded_of_change_and (C := Tryz.checked) (X := fun w _ => laidMetH Tryz.prog laid3 w) (fun _ _ _ hh h => h.of_heap hh) own started (by kernel_rfl) Tryz.func7
    (ChangeSpec.witness_shaped (enc := enc) (C := Tryz.checked) (os := os) (X := fun w _ => laidMetH Tryz.prog laid3 w) false (World.doorLaid Tryz.prog 400 os) #[.agg #[.int .u8 0, .int .u8 0, .int .u8 0, .int .u8 0, .int .u8 0, .int .u8 0, .int .u8 0, .int .u8 0], .int .u8 0] 8 rfl (World.shaped_of_RefB (by kernel_rfl) (by kernel_rfl)) (by kernel_rfl) (by kernel_rfl) (by kernel_rfl) (door_met os _)) ?_
  intro W base args ds gs before hval0 hW _ hsz0 hL _
  have hval : ∀ (j : Nat) t v, Tryz.f7.params[j]? = some t → args[j]? = some v → Value.okWide Tryz.prog W .any base t v := hval0
  have hsz : (DataW.weightsEach Tryz.prog (Tryz.f7.params.toList ++ Rows.fnRangeWholeSpec.plain.varTypes Tryz.prog) (ds ++ gs)).all (· ≤ reachBytes) = true := hsz0
  have hW' := hW
  obtain ⟨p, q, hA0, hV, rfl, hfz, hnd⟩ := hW
  have hA : DataW.TrodAll enc Tryz.prog W 0 (fun _ => true) true Tryz.f7.params.toList args.toList ds p := hA0
  rw [Tryz.params7] at hA hval hsz
  obtain ⟨v0, vs0, d0, ds0, p0, q0, hargs, rfl, rfl, h0, r0⟩ := trodAll_cons hA
  obtain ⟨v1, vs1, d1, ds1, p1, q1, rfl, rfl, rfl, h1, r1⟩ := trodAll_cons r0
  obtain ⟨rfl, rfl, rfl⟩ := trodAll_nil r1
  obtain rfl : args = #[v0, v1] := by cases args; simp_all
  obtain ⟨rfl, rfl⟩ := trodVars_none hV
  have lt0 : ∀ x ∈ p0, x.block < W.heap.size := by obtain ⟨m, hm⟩ := h0; exact DataW.trod_lt m _ _ _ hm
  obtain ⟨f0, l0, rfl⟩ := arr8_in (hval 0 55 v0 rfl rfl) h0
  have lt1 : ∀ x ∈ p1, x.block < W.heap.size := by obtain ⟨m, hm⟩ := h1; exact DataW.trod_lt m _ _ _ hm
  obtain ⟨n1, l1, rfl⟩ := int_in (hval 1 5 v1 rfl rfl) h1
  clear hA0 hval0
  refine (c7 f0 l0 n1 l1 W (tabs_in hL)).mono fun e W' ⟨he, hc⟩ => ?_
  subst he
  have bel := chg_below hc
  exact ⟨_, rfl, _, _, _, [], _, [], hW', trodAll_mk1 (shut_bool Tryz.underlying4 _), (trodAll_cons_mk (Below.trod laidOut (by kernel_rfl) (of_decide_eq_true (by kernel_rfl)) h0 bel lt0) (trodAll_cons_mk (Below.trod laidOut (by kernel_rfl) (of_decide_eq_true (by kernel_rfl)) h1 bel lt1) trodAll_mk0)), rfl, bel.frame _, fun h => by cases h⟩

theorem fnRangeWhole_row : Rows.FnRangeWholeSaid :=
  OpenClaim.holds_of_wide 7 Tryz.f7 rfl rfl rfl rfl rfl rfl rfl ⟨rfl, rfl, rfl, rfl, rfl⟩ rfl rfl rfl rfl rfl (by kernel_rfl) Tryz.func7 (by kernel_rfl)
    (of_decide_eq_true (by kernel_rfl)) (by unfold Func.isWrapper; first | (rw [if_pos (by decide +kernel)]; kernel_rfl) | (rw [if_neg (by decide +kernel)]; exact ⟨rfl, rfl⟩))
    (fun os started H enc _ => fnRangeWhole_lifted os started H enc)

/-- THE CARD. -/
theorem fnRangeWhole_holds : Rows.FnRangeWholeCardSaid :=
  Claim7.holds_tied_plain_at .later [] [.data, .data, .data] true (true, "a42644400f0018265f0bb198f0d86b67e5c7510b7059093655c585f12e8178fa") false
    fnRangeWhole_row (fun _ h => by cases h) (by kernel_rfl) (fun _ h => by cases h) fnRangeWhole_row_tie rfl ⟨rfl, rfl⟩ (by kernel_rfl) rfl
    (fun f fn hf hfn => by
      obtain rfl : f = 7 := Option.some.inj ((show Tryz.prog.funcNamed "loop.example/pub-addresssets/laws.FnRangeWhole" = some 7 by kernel_rfl).symm.trans hf) |>.symm
      obtain rfl : fn = Tryz.f7 := (Option.some.inj (Tryz.func7.symm.trans hfn)).symm
      exact ⟨by kernel_rfl, fun j t ht => by
        rw [Tryz.params7] at ht
        have hm : t ∈ [55, 5] := by have := Array.mem_of_getElem? ht; simp at this; simp [this]
        have hall : ([55, 5].all fun u => !Tryz.prog.wantsStandIn u) = true := by kernel_rfl
        exact (show Tryz.prog.wantsStandIn t = false by simpa using List.all_eq_true.1 hall t hm)⟩)
    (by kernel_rfl)
#print axioms fnRangeWhole_holds
end Go.Proofs.YtmoabfpdlbngeaaGreatDoor
