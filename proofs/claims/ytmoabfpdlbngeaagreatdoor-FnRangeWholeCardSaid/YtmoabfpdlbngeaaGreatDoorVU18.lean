/-
  Part of the proofs on the laws of pub-addresssets: joined texts (U18, U19, U20).
-/
import Derived.Test.YtmoabfpdlbngeaaGreatDoorVU15
import Derived.Lib.SliceRun
section
namespace Go.Proofs.YtmoabfpdlbngeaaGreatDoor
open Go.RowKit
set_option maxHeartbeats 400000
set_option linter.unusedVariables false
set_option linter.unusedSimpArgs false
/-- What a digit of a group is worth. -/
def dv (c : Nat) : Nat := if c < 58 then c - 48 else c - 87
theorem dv_dig (q : Nat) (h : q < 16) : dv (dig q) = q := by
  unfold dv dig
  by_cases h1 : q < 10
  · rw [if_pos h1, if_pos (by omega)]; omega
  · rw [if_neg h1, if_neg (by omega)]; omega
/-- The value of the first digits of a group. -/
def hvD (D : List Nat) : Nat → Nat
  | 0 => 0
  | j + 1 => hvD D j * 16 + dv (D.getD j 0)
structure HexF (D : List Nat) (x : Nat) : Prop where
  one : 1 ≤ D.length
  four : D.length ≤ 4
  dg : ∀ j, j < D.length → ∃ d, d < 16 ∧ D.getD j 0 = dig d ∧ hvD D (j + 1) = hvD D j * 16 + d ∧ hvD D (j + 1) ≤ 65535
  fin : hvD D D.length = x
theorem hexF (x : Nat) (hx : x < 65536) : HexF (hexB x) x := by
  have d0 := dv_dig (x % 16) (by omega)
  have d1 := dv_dig (x / 16 % 16) (by omega)
  have d2 := dv_dig (x / 256 % 16) (by omega)
  have d3 := dv_dig (x / 4096) (by omega)
  unfold hexB
  by_cases h3 : 4096 ≤ x
  · rw [if_pos h3]
    refine ⟨by simp, by simp, fun j hj => ?_, ?_⟩
    · simp only [List.length_cons, List.length_nil] at hj
      rcases (show j = 0 ∨ j = 1 ∨ j = 2 ∨ j = 3 by omega) with rfl | rfl | rfl | rfl
      · exact ⟨x / 4096, by omega, rfl, by simp [hvD, d3], by simp [hvD, d3]; omega⟩
      · exact ⟨x / 256 % 16, by omega, rfl, by simp [hvD, d2, d3], by simp [hvD, d2, d3]; omega⟩
      · exact ⟨x / 16 % 16, by omega, rfl, by simp [hvD, d1, d2, d3], by simp [hvD, d1, d2, d3]; omega⟩
      · exact ⟨x % 16, by omega, rfl, by simp [hvD, d0, d1, d2, d3], by simp [hvD, d0, d1, d2, d3]; omega⟩
    · simp [hvD, d0, d1, d2, d3]; omega
  · rw [if_neg h3]
    by_cases h2 : 256 ≤ x
    · rw [if_pos h2]
      refine ⟨by simp, by simp, fun j hj => ?_, ?_⟩
      · simp only [List.length_cons, List.length_nil] at hj
        rcases (show j = 0 ∨ j = 1 ∨ j = 2 by omega) with rfl | rfl | rfl
        · exact ⟨x / 256 % 16, by omega, rfl, by simp [hvD, d2], by simp [hvD, d2]; omega⟩
        · exact ⟨x / 16 % 16, by omega, rfl, by simp [hvD, d1, d2], by simp [hvD, d1, d2]; omega⟩
        · exact ⟨x % 16, by omega, rfl, by simp [hvD, d0, d1, d2], by simp [hvD, d0, d1, d2]; omega⟩
      · simp [hvD, d0, d1, d2]; omega
    · rw [if_neg h2]
      by_cases h1 : 16 ≤ x
      · rw [if_pos h1]
        refine ⟨by simp, by simp, fun j hj => ?_, ?_⟩
        · simp only [List.length_cons, List.length_nil] at hj
          rcases (show j = 0 ∨ j = 1 by omega) with rfl | rfl
          · exact ⟨x / 16 % 16, by omega, rfl, by simp [hvD, d1], by simp [hvD, d1]; omega⟩
          · exact ⟨x % 16, by omega, rfl, by simp [hvD, d0, d1], by simp [hvD, d0, d1]; omega⟩
        · simp [hvD, d0, d1]; omega
      · rw [if_neg h1]
        refine ⟨by simp, by simp, fun j hj => ?_, ?_⟩
        · simp only [List.length_cons, List.length_nil] at hj
          obtain rfl : j = 0 := by omega
          exact ⟨x % 16, by omega, rfl, by simp [hvD, d0], by simp [hvD, d0]; omega⟩
        · simp [hvD, d0]; omega
theorem jg_cons (g : Nat → Nat) : ∀ n a, jg g a (n + 1) = hexB (g a) ++ (if n = 0 then [] else 58 :: jg g (a + 1) n)
  | 0, a => by simp [jg]
  | n + 1, a => by
    have e : jg g a (n + 1 + 1) = jg g a (n + 1) ++ [58] ++ hexB (g (a + (n + 1))) := by
      rw [jg, if_neg (by omega)]
    rw [e, jg_cons g n a, if_neg (Nat.succ_ne_zero n)]
    by_cases h : n = 0
    · subst h
      simp [jg]
    · rw [if_neg h]
      have e2 : jg g (a + 1) (n + 1) = jg g (a + 1) n ++ [58] ++ hexB (g (a + 1 + n)) := by
        rw [jg, if_neg h]
      rw [e2, show a + 1 + n = a + (n + 1) by omega]
      simp
/-- The words of a text: the groups but for the run that '::' stands for. -/
def wdW (g : Nat → Nat) (st en c : Nat) : Nat := if c < st then g c else g (c - st + en)
/-- The text from word c on, n words being left. -/
def ttT (g : Nat → Nat) (st en : Nat) : Nat → Nat → List Nat
  | 0, _ => []
  | n + 1, c => hexB (wdW g st en c) ++ (if c + 1 = st then 58 :: 58 :: ttT g st en n (c + 1) else if n = 0 then [] else 58 :: ttT g st en n (c + 1))
theorem tt_behind (g : Nat → Nat) (st en : Nat) : ∀ n c, st ≤ c → ttT g st en n c = jg g (c - st + en) n
  | 0, c, _ => rfl
  | n + 1, c, h => by
    rw [ttT, jg_cons, if_neg (by omega), tt_behind g st en n (c + 1) (by omega), wdW, if_neg (by omega), show c + 1 - st + en = c - st + en + 1 by omega]
theorem tt_ahead (g : Nat → Nat) (st en r : Nat) : ∀ d c, c + d + 1 = st → ttT g st en (d + 1 + r) c = jg g c (d + 1) ++ 58 :: 58 :: jg g en r
  | 0, c, h => by
    rw [show 0 + 1 + r = r + 1 by omega, ttT, if_pos (by omega), tt_behind g st en r (c + 1) (by omega), wdW, if_pos (by omega), show c + 1 - st + en = en by omega]
    simp [jg]
  | d + 1, c, h => by
    rw [show d + 1 + 1 + r = (d + 1 + r) + 1 by omega, ttT, if_neg (by omega), if_neg (by omega), tt_ahead g st en r d (c + 1) (by omega), jg_cons g (d + 1) c, if_neg (Nat.succ_ne_zero d), wdW, if_pos (by omega)]
    simp
theorem tt_none (g : Nat → Nat) (en : Nat) : ∀ n c, c + n ≤ 254 → ttT g 255 en n c = jg g c n
  | 0, c, _ => rfl
  | n + 1, c, h => by
    rw [ttT, jg_cons, if_neg (by omega), tt_none g en n (c + 1) (by omega), wdW, if_pos (by omega)]
/-- How many words. -/
def mW (st en : Nat) : Nat := if st < 8 then st + (8 - en) else 8
theorem stB_zero (g : Nat → Nat) : ∀ i, (stB g i).1 < 8 → ∀ q, (stB g i).1 ≤ q → q < (stB g i).2 → g q = 0
  | 0, h => by
    simp [stB] at h
  | i + 1, h => by
    unfold stB at h ⊢
    split
    · rename_i hc
      rw [if_pos hc] at h
      intro q h1 h2
      exact (zl_spec g (8 - i) i).2.1 q h1 h2
    · rename_i hc
      rw [if_neg hc] at h
      exact stB_zero g i h
/-- The text of 6 by its words. -/
theorem txt6_tt (g : Nat → Nat) : ∃ st en m, m = mW st en ∧ ((st = 255 ∧ m = 8) ∨ (st + 2 ≤ en ∧ en ≤ 8 ∧ m + en = st + 8)) ∧ (st < 8 → ∀ q, st ≤ q → q < en → g q = 0) ∧ txt6 g = (if st = 0 then [58, 58] else []) ++ ttT g st en m 0 := by
  have hz := stB_zero g 8
  rcases stB_in g 8 (by omega) with e | ⟨h1, h2, h3⟩
  · refine ⟨255, 255, 8, rfl, .inl ⟨rfl, rfl⟩, fun h => by omega, ?_⟩
    unfold txt6
    rw [e, if_neg (by decide), if_neg (by decide), tt_none g 255 8 0 (by decide)]
    rfl
  · refine ⟨(stB g 8).1, (stB g 8).2, (stB g 8).1 + (8 - (stB g 8).2), by unfold mW; rw [if_pos h1], .inr ⟨h2, h3, by omega⟩, hz, ?_⟩
    unfold txt6
    rw [if_pos h1]
    generalize (stB g 8).1 = st at *
    generalize (stB g 8).2 = en at *
    by_cases h0 : st = 0
    · subst h0
      rw [if_pos rfl, tt_behind g 0 en _ 0 (by omega), show 0 - 0 + en = en by omega, Nat.zero_add]
      simp [jg]
    · rw [if_neg h0]
      obtain ⟨d, rfl⟩ : ∃ d, st = d + 1 := ⟨st - 1, by omega⟩
      rw [tt_ahead g (d + 1) en (8 - en) d 0 (by omega)]
      simp
end Go.Proofs.YtmoabfpdlbngeaaGreatDoor
end

section
namespace Go.Proofs.YtmoabfpdlbngeaaGreatDoor
open Go.RowKit
set_option maxHeartbeats 400000
set_option linter.unusedVariables false
set_option linter.unusedSimpArgs false
/-- The bytes of words. -/
def bW (W : Nat → Nat) (q : Nat) : Nat := if q % 2 = 0 then W (q / 2) / 256 else W (q / 2) % 256
theorem bW_even (W : Nat → Nat) (c : Nat) : bW W (2 * c) = W c / 256 := by
  unfold bW
  rw [if_pos (by omega), show 2 * c / 2 = c by omega]
theorem bW_odd (W : Nat → Nat) (c : Nat) : bW W (2 * c + 1) = W c % 256 := by
  unfold bW
  rw [if_neg (by omega), show (2 * c + 1) / 2 = c by omega]
theorem bH (k i : Nat) (hi : i < 4) : bW (g6 k) (2 * i) = hN k / 2 ^ (56 - 16 * i) % 256 ∧ bW (g6 k) (2 * i + 1) = hN k / 2 ^ (48 - 16 * i) % 256 := by
  rw [bW_even, bW_odd]
  unfold g6
  rw [if_pos hi]
  rcases (show i = 0 ∨ i = 1 ∨ i = 2 ∨ i = 3 by omega) with rfl | rfl | rfl | rfl <;> simp <;> omega
theorem bL (k i : Nat) (hi : i < 4) : bW (g6 k) (2 * (i + 4)) = lN k / 2 ^ (56 - 16 * i) % 256 ∧ bW (g6 k) (2 * (i + 4) + 1) = lN k / 2 ^ (48 - 16 * i) % 256 := by
  rw [bW_even, bW_odd]
  unfold g6
  rw [if_neg (by omega)]
  rcases (show i = 0 ∨ i = 1 ∨ i = 2 ∨ i = 3 by omega) with rfl | rfl | rfl | rfl <;> simp <;> omega
set_option maxRecDepth 100000 in
theorem k94 (k : Nat) (o : okK k) (hs : sK k = true) (w : World) : Calls Tryz.prog 94 #[.agg #[.int .u8 ((bW (g6 k) 0 : Nat) : Int), .int .u8 ((bW (g6 k) 1 : Nat) : Int), .int .u8 ((bW (g6 k) 2 : Nat) : Int), .int .u8 ((bW (g6 k) 3 : Nat) : Int), .int .u8 ((bW (g6 k) 4 : Nat) : Int), .int .u8 ((bW (g6 k) 5 : Nat) : Int), .int .u8 ((bW (g6 k) 6 : Nat) : Int), .int .u8 ((bW (g6 k) 7 : Nat) : Int), .int .u8 ((bW (g6 k) 8 : Nat) : Int), .int .u8 ((bW (g6 k) 9 : Nat) : Int), .int .u8 ((bW (g6 k) 10 : Nat) : Int), .int .u8 ((bW (g6 k) 11 : Nat) : Int), .int .u8 ((bW (g6 k) 12 : Nat) : Int), .int .u8 ((bW (g6 k) 13 : Nat) : Int), .int .u8 ((bW (g6 k) 14 : Nat) : Int), .int .u8 ((bW (g6 k) 15 : Nat) : Int)]] w fun e w' => e = .returned (.agg #[.int .u64 (hK k), .int .u64 (lK k), .bool true, .bool (sK k), .string ⟨#[]⟩]) ∧ Plus w w' := by
  have h := c94 ((bW (g6 k) 0 : Nat) : Int) ((bW (g6 k) 1 : Nat) : Int) ((bW (g6 k) 2 : Nat) : Int) ((bW (g6 k) 3 : Nat) : Int) ((bW (g6 k) 4 : Nat) : Int) ((bW (g6 k) 5 : Nat) : Int) ((bW (g6 k) 6 : Nat) : Int) ((bW (g6 k) 7 : Nat) : Int) ((bW (g6 k) 8 : Nat) : Int) ((bW (g6 k) 9 : Nat) : Int) ((bW (g6 k) 10 : Nat) : Int) ((bW (g6 k) 11 : Nat) : Int) ((bW (g6 k) 12 : Nat) : Int) ((bW (g6 k) 13 : Nat) : Int) ((bW (g6 k) 14 : Nat) : Int) ((bW (g6 k) 15 : Nat) : Int) w
  have h1 := hN_lt k o
  have h2 := lN_lt k o
  rw [hs, hK_N, lK_N]
  have b0 : bW (g6 k) 0 = hN k / 72057594037927936 % 256 := by
    have := (bH k 0 (by omega)).1
    simpa using this
  have a0 : ((bW (g6 k) 0 : Nat) : Int) = (hN k : Int) / 72057594037927936 % 256 := by rw [b0]; omega
  have b1 : bW (g6 k) 1 = hN k / 281474976710656 % 256 := by
    have := (bH k 0 (by omega)).2
    simpa using this
  have a1 : ((bW (g6 k) 1 : Nat) : Int) = (hN k : Int) / 281474976710656 % 256 := by rw [b1]; omega
  have b2 : bW (g6 k) 2 = hN k / 1099511627776 % 256 := by
    have := (bH k 1 (by omega)).1
    simpa using this
  have a2 : ((bW (g6 k) 2 : Nat) : Int) = (hN k : Int) / 1099511627776 % 256 := by rw [b2]; omega
  have b3 : bW (g6 k) 3 = hN k / 4294967296 % 256 := by
    have := (bH k 1 (by omega)).2
    simpa using this
  have a3 : ((bW (g6 k) 3 : Nat) : Int) = (hN k : Int) / 4294967296 % 256 := by rw [b3]; omega
  have b4 : bW (g6 k) 4 = hN k / 16777216 % 256 := by
    have := (bH k 2 (by omega)).1
    simpa using this
  have a4 : ((bW (g6 k) 4 : Nat) : Int) = (hN k : Int) / 16777216 % 256 := by rw [b4]; omega
  have b5 : bW (g6 k) 5 = hN k / 65536 % 256 := by
    have := (bH k 2 (by omega)).2
    simpa using this
  have a5 : ((bW (g6 k) 5 : Nat) : Int) = (hN k : Int) / 65536 % 256 := by rw [b5]; omega
  have b6 : bW (g6 k) 6 = hN k / 256 % 256 := by
    have := (bH k 3 (by omega)).1
    simpa using this
  have a6 : ((bW (g6 k) 6 : Nat) : Int) = (hN k : Int) / 256 % 256 := by rw [b6]; omega
  have b7 : bW (g6 k) 7 = hN k % 256 := by
    have := (bH k 3 (by omega)).2
    simpa using this
  have a7 : ((bW (g6 k) 7 : Nat) : Int) = (hN k : Int) % 256 := by rw [b7]; omega

  have b8 : bW (g6 k) 8 = lN k / 72057594037927936 % 256 := by
    have := (bL k 0 (by omega)).1
    simpa using this
  have a8 : ((bW (g6 k) 8 : Nat) : Int) = (lN k : Int) / 72057594037927936 % 256 := by rw [b8]; omega
  have b9 : bW (g6 k) 9 = lN k / 281474976710656 % 256 := by
    have := (bL k 0 (by omega)).2
    simpa using this
  have a9 : ((bW (g6 k) 9 : Nat) : Int) = (lN k : Int) / 281474976710656 % 256 := by rw [b9]; omega
  have b10 : bW (g6 k) 10 = lN k / 1099511627776 % 256 := by
    have := (bL k 1 (by omega)).1
    simpa using this
  have a10 : ((bW (g6 k) 10 : Nat) : Int) = (lN k : Int) / 1099511627776 % 256 := by rw [b10]; omega
  have b11 : bW (g6 k) 11 = lN k / 4294967296 % 256 := by
    have := (bL k 1 (by omega)).2
    simpa using this
  have a11 : ((bW (g6 k) 11 : Nat) : Int) = (lN k : Int) / 4294967296 % 256 := by rw [b11]; omega
  have b12 : bW (g6 k) 12 = lN k / 16777216 % 256 := by
    have := (bL k 2 (by omega)).1
    simpa using this
  have a12 : ((bW (g6 k) 12 : Nat) : Int) = (lN k : Int) / 16777216 % 256 := by rw [b12]; omega
  have b13 : bW (g6 k) 13 = lN k / 65536 % 256 := by
    have := (bL k 2 (by omega)).2
    simpa using this
  have a13 : ((bW (g6 k) 13 : Nat) : Int) = (lN k : Int) / 65536 % 256 := by rw [b13]; omega
  have b14 : bW (g6 k) 14 = lN k / 256 % 256 := by
    have := (bL k 3 (by omega)).1
    simpa using this
  have a14 : ((bW (g6 k) 14 : Nat) : Int) = (lN k : Int) / 256 % 256 := by rw [b14]; omega
  have b15 : bW (g6 k) 15 = lN k % 256 := by
    have := (bL k 3 (by omega)).2
    simpa using this
  have a15 : ((bW (g6 k) 15 : Nat) : Int) = (lN k : Int) % 256 := by rw [b15]; omega

  have e1 := sh8_bytes ((hN k : Nat) : Int) (by omega) (by omega)
  have e2 := sh8_bytes ((lN k : Nat) : Int) (by omega) (by omega)
  rw [← a0, ← a1, ← a2, ← a3, ← a4, ← a5, ← a6, ← a7] at e1
  rw [← a8, ← a9, ← a10, ← a11, ← a12, ← a13, ← a14, ← a15] at e2
  rw [e1, e2] at h
  exact h
/-- The world within parseIPv6: B is the block of the bytes. -/
structure P6 (w W : World) (B : Nat) (f : Nat → Nat) : Prop where
  lt : w.heap.size < B
  chg : Chg (fun _ => False) w W
  box : W.heap[w.heap.size]? = some (.cells #[.int .u64 0, .int .u64 0, .bool false, .bool false, .string ⟨#[]⟩] 78 (0, 0))
  arr : ArrB W B 149 16 f
theorem ArrB.new16 (w : World) (T B : Nat) (hB : B = w.heap.size) : ArrB (w.alloc (.cells #[.int .u8 0, .int .u8 0, .int .u8 0, .int .u8 0, .int .u8 0, .int .u8 0, .int .u8 0, .int .u8 0, .int .u8 0, .int .u8 0, .int .u8 0, .int .u8 0, .int .u8 0, .int .u8 0, .int .u8 0, .int .u8 0] T)) B T 16 (fun _ => 0) := by
  subst hB
  refine ⟨_, blk_new rfl, rfl, fun t ht => ?_⟩
  rcases (show t = 0 ∨ t = 1 ∨ t = 2 ∨ t = 3 ∨ t = 4 ∨ t = 5 ∨ t = 6 ∨ t = 7 ∨ t = 8 ∨ t = 9 ∨ t = 10 ∨ t = 11 ∨ t = 12 ∨ t = 13 ∨ t = 14 ∨ t = 15 by omega) with rfl | rfl | rfl | rfl | rfl | rfl | rfl | rfl | rfl | rfl | rfl | rfl | rfl | rfl | rfl | rfl <;> rfl
theorem P6.start (w W : World) (B : Nat) (hB : B = W.heap.size) (C : Chg (fun _ => False) (w.alloc (.cells #[.int .u64 0, .int .u64 0, .bool false, .bool false, .string ⟨#[]⟩] 78)) W) : P6 w (W.alloc (.cells #[.int .u8 0, .int .u8 0, .int .u8 0, .int .u8 0, .int .u8 0, .int .u8 0, .int .u8 0, .int .u8 0, .int .u8 0, .int .u8 0, .int .u8 0, .int .u8 0, .int .u8 0, .int .u8 0, .int .u8 0, .int .u8 0] 149)) B (fun _ => 0) := by
  subst hB
  have h := C.size
  rw [World.size_alloc] at h
  exact ⟨by omega, (Chg.trans ((Chg.refl _ _).alloc _) C).alloc _, heap_chg (F := fun _ => False) (C.alloc _) (blk_new rfl) id, ArrB.new16 _ _ _ rfl⟩
theorem P6.step {w W W' : World} {B : Nat} {f : Nat → Nat} (H : P6 w W B f) (C : Chg (fun _ => False) W W') : P6 w W' B f :=
  ⟨H.lt, H.chg.trans C, heap_chg C H.box id, H.arr.chg C id⟩
theorem P6.set {w W : World} {B : Nat} {f : Nat → Nat} (H : P6 w W B f) (q b : Nat) : P6 w (W.setCell ⟨B, q, none⟩ (.int .u8 ((b : Nat) : Int))) B (fun i => if i = q then b else f i) :=
  ⟨H.lt, H.chg.setCell _ _ (fun h => absurd h (Nat.not_lt.2 (Nat.le_of_lt H.lt))), heap_chg ((Chg.refl (fun b => b = B) W).setCell _ _ (fun _ => rfl)) H.box (by have := H.lt; omega), H.arr.set q b⟩
theorem P6.congr {w W : World} {B : Nat} {f g : Nat → Nat} (H : P6 w W B f) (h : ∀ i, i < 16 → f i = g i) : P6 w W B g := ⟨H.lt, H.chg, H.box, H.arr.congr h⟩
theorem P6.zero {w : World} {B : Nat} : ∀ (N a : Nat) {W : World} {f : Nat → Nat}, P6 w W B f → P6 w (W.setCells B a (List.replicate N (.int .u8 0))) B (fun q => if a ≤ q ∧ q < a + N then 0 else f q)
  | 0, a, W, f, H => H.congr (fun i hi => by rw [if_neg (by omega)])
  | N + 1, a, W, f, H => by
    have h := P6.zero N (a + 1) (H.set a 0)
    refine P6.congr h (fun i hi => ?_)
    by_cases e : i = a
    · subst e
      rw [if_neg (by omega), if_pos rfl, if_pos (by omega)]
    · by_cases e2 : a + 1 ≤ i ∧ i < a + 1 + N
      · rw [if_pos e2, if_pos (by omega)]
      · rw [if_neg e2, if_neg e, if_neg (by omega)]
/-- The bytes that the words leave, and what the run of zeros makes of them. -/
theorem fin_bytes (g : Nat → Nat) (st en m N : Nat) (f : Nat → Nat) (h1 : st + 2 ≤ en) (h2 : en ≤ 8) (h3 : m + en = st + 8) (hN : N = 16 - 2 * m) (hz : ∀ q, st ≤ q → q < en → g q = 0) (h4 : ∀ q, q < 2 * st → f q = bW (wdW g st en) q) (h5 : ∀ q, 2 * st ≤ q → q < 2 * m → f (q + N) = bW (wdW g st en) q) (q : Nat) (hq : q < 16) : (if 2 * st ≤ q ∧ q < 2 * st + N then 0 else f q) = bW g q := by
  by_cases e : 2 * st ≤ q ∧ q < 2 * st + N
  · rw [if_pos e]
    have := hz (q / 2) (by omega) (by omega)
    unfold bW
    rw [this]
    split <;> rfl
  · rw [if_neg e]
    by_cases e1 : q < 2 * st
    · rw [h4 q e1]
      have w : wdW g st en (q / 2) = g (q / 2) := by unfold wdW; rw [if_pos (by omega)]
      unfold bW
      rw [w]
    · have := h5 (q - N) (by omega) (by omega)
      rw [show q - N + N = q by omega] at this
      rw [this]
      have w : wdW g st en ((q - N) / 2) = g (q / 2) := by
        unfold wdW
        rw [if_neg (by omega)]
        exact congrArg g (by omega)
      unfold bW
      rw [w, show (q - N) % 2 = q % 2 by omega]
end Go.Proofs.YtmoabfpdlbngeaaGreatDoor
end

section
namespace Go.Proofs.YtmoabfpdlbngeaaGreatDoor
open Go.RowKit
set_option maxHeartbeats 400000
set_option linter.unusedVariables false
set_option linter.unusedSimpArgs false
/-- A byte of a text of 6: a digit of 16 or a colon. -/
def OkB (b : Nat) : Prop := b = 58 ∨ ∃ d, d < 16 ∧ b = dig d
theorem OkB.bd {b : Nat} (h : OkB b) : b < 128 ∧ b ≠ 37 ∧ b ≠ 45 ∧ b ≠ 46 := by
  rcases h with rfl | ⟨d, hd, rfl⟩
  · omega
  · unfold dig
    split <;> omega
theorem dig_bd (d : Nat) (h : d < 16) : (48 ≤ dig d ∧ dig d ≤ 57 ∧ dig d = 48 + d) ∨ (97 ≤ dig d ∧ dig d ≤ 102 ∧ dig d = 87 + d) := by
  unfold dig
  split <;> omega
theorem hexB_okB (x : Nat) (hx : x < 65536) : ∀ b, b ∈ hexB x → OkB b := fun b hb => by
  obtain ⟨i, hi, e⟩ := List.mem_iff_getElem.1 hb
  obtain ⟨d, hd, e2, _⟩ := (hexF x hx).dg i hi
  have e3 : (hexB x).getD i 0 = (hexB x)[i] := by simp [List.getD_eq_getElem?_getD, List.getElem?_eq_getElem hi]
  exact .inr ⟨d, hd, by rw [← e, ← e3, e2]⟩
theorem tt_okB (g : Nat → Nat) (st en : Nat) (hW : ∀ q, wdW g st en q < 65536) : ∀ n c b, b ∈ ttT g st en n c → OkB b
  | 0, c, b, h => by simp [ttT] at h
  | n + 1, c, b, h => by
    rw [ttT] at h
    rcases List.mem_append.1 h with h | h
    · exact hexB_okB _ (hW c) b h
    · split at h
      · rcases List.mem_cons.1 h with rfl | h
        · exact .inl rfl
        · rcases List.mem_cons.1 h with rfl | h
          · exact .inl rfl
          · exact tt_okB g st en hW n (c + 1) b h
      · split at h
        · simp at h
        · rcases List.mem_cons.1 h with rfl | h
          · exact .inl rfl
          · exact tt_okB g st en hW n (c + 1) b h
theorem tt_len (g : Nat → Nat) (st en : Nat) (hW : ∀ q, wdW g st en q < 65536) : ∀ n c, (ttT g st en n c).length ≤ 6 * n
  | 0, c => by simp [ttT]
  | n + 1, c => by
    have h1 := (hexF _ (hW c)).four
    have h2 := tt_len g st en hW n (c + 1)
    rw [ttT, List.length_append]
    split
    · simp only [List.length_cons]; omega
    · split
      · simp only [List.length_nil]; omega
      · simp only [List.length_cons]; omega
theorem wdW_lt (k st en q : Nat) : wdW (g6 k) st en q < 65536 := by
  unfold wdW
  split <;> exact g6_lt _ _
theorem g6_zero (k : Nat) (o : okK k) (h : ∀ q, q < 8 → g6 k q = 0) : hN k = 0 ∧ lN k = 0 := by
  have h1 := hN_lt k o
  have h2 := lN_lt k o
  have e0 := h 0 (by omega)
  have e1 := h 1 (by omega)
  have e2 := h 2 (by omega)
  have e3 := h 3 (by omega)
  have e4 := h 4 (by omega)
  have e5 := h 5 (by omega)
  have e6 := h 6 (by omega)
  have e7 := h 7 (by omega)
  simp [g6] at e0 e1 e2 e3 e4 e5 e6 e7
  omega
/-- The place of '::', behind c words. -/
def elW (st c : Nat) : Int := if st ≤ c then ((2 * st : Nat) : Int) else -1
/-- The text that begins with a word: what its first bytes are. -/
structure HeadF (l D tl : List Nat) : Prop where
  app : l = D ++ tl
  ok : LtB l
theorem HeadF.get {l D tl : List Nat} (H : HeadF l D tl) (j : Nat) (hj : j < D.length) : l.getD j 0 = D.getD j 0 := by
  rw [H.app]
  simp [List.getD_eq_getElem?_getD, List.getElem?_append_left hj]
theorem HeadF.at {l D tl : List Nat} (H : HeadF l D tl) : l.getD D.length 0 = tl.getD 0 0 := by
  rw [H.app]
  simp [List.getD_eq_getElem?_getD, List.getElem?_append_right]
theorem HeadF.drop {l D tl : List Nat} (H : HeadF l D tl) : l.drop D.length = tl := by
  rw [H.app]
  simp
theorem cons_ix (b : Nat) (l : List Nat) (h : LtB (b :: l)) (kk : IntKind) (w : World) : (Instr.index 9 (.string (toB (b :: l))) (.int kk 0)).run Tryz.prog w = .ok (.int .u8 ((b : Nat) : Int)) w := toB_ix (b :: l) h 0 (by simp) kk w
theorem cons_sl (b : Nat) (l : List Nat) (w : World) : (Instr.slice 9 (.string (toB (b :: l))) (some (.int .i64 1)) none none).run Tryz.prog w = .ok (.string (toB l)) w := toB_from (b :: l) 1 (by simp) w
theorem toB_nil : toB [] = ⟨#[]⟩ := rfl
theorem slice149 (B a n : Nat) (hn : a + n ≤ 16) (ha : a < 16) (w : World) : (Instr.sliceAt 149 (.pointer (some ⟨B, 0, none⟩)) (some (.int .i64 ((a : Nat) : Int))) (some (.int .i64 (((a : Nat) : Int) + ((n : Nat) : Int)))) none).run Tryz.prog w = .ok (.slice (some ⟨B, a, none⟩) n (16 - a)) w := by
  have h1 : (a : Int) ≤ (a : Int) + (n : Int) := by omega
  have h2 : (a : Int) + (n : Int) ≤ 16 := by omega
  have h3 : ((a : Int) + (n : Int) - (a : Int)).toNat = n := by omega
  have h4 : ((16 : Int) - (a : Int)).toNat = 16 - a := by omega
  have h5 : ¬ (16 - a = 0) := by omega
  have h6 : (0 : Int) ≤ (a : Int) + (n : Int) := by omega
  have h7 : ((a : Int) + (n : Int)).toNat = a + n := by omega
  simp [Instr.sliceAt, go_sem, h1, h2, h3, h4, h6, h7]
  try omega
theorem clr22 (B a n c T : Nat) (f : Nat → Nat) (W : World) (H : ArrB W B T 16 f) (h0 : 0 < n) (hn : a + n ≤ 16) (ty : TypeId) : (Builtin.clear_ #[22] ty #[.slice (some ⟨B, a, none⟩) n c]).run Tryz.prog W = .ok (.tuple #[]) (W.setCells B a (List.replicate n (.int .u8 0))) :=
  Lib.run_clear_slice W 22 5 ty (.int .u8 0) Tryz.underlying22 (fun w => by simp [go_sem]) rfl rfl B a n c h0 (fun j hj => by rw [(H.at (a + j) (by omega)).1]; rfl) (fun j hj => (H.at (a + j) (by omega)).2.1)
theorem elW_of_le {st c : Nat} (h : st ≤ c) : elW st c = ((2 * st : Nat) : Int) := if_pos h
theorem elW_of_lt {st c : Nat} (h : c < st) : elW st c = -1 := if_neg (by omega)
theorem elW_step {st c : Nat} (h : c + 1 ≠ st) : elW st (c + 1) = elW st c := by
  unfold elW
  by_cases e : st ≤ c
  · rw [if_pos e, if_pos (by omega)]
  · rw [if_neg e, if_neg (by omega)]
end Go.Proofs.YtmoabfpdlbngeaaGreatDoor
end
