/-
  Part of the proofs on the laws of pub-addresssets: joined texts (Sh).
-/
import Derived.Shelf.Strings.OnBuilder
import Derived.Shelf.Small.Strs
import Derived.Shelf.LaysM
import Derived.Shelf.Strconv.Itoa3
import Derived.Shelf.Strings.Search1
import Derived.Test.YtmoabfpdlbngeaaGreatDoorProg
section
set_option linter.unusedVariables false
set_option linter.unusedSimpArgs false
/- strings.Join, strings.IndexByte, strconv.Itoa by the shelf's contracts, laid at this program. -/
namespace Go.Proofs
open Go.Shelf
def Tryz.lays156_ren : Go.Shelf.Ren := ⟨fun | 156 => 118 | 165 => 155 | 166 => 156 | 169 => 157 | 240 => 179 | 241 => 180 | 276 => 194 | 277 => 195 | n => n, fun | 31 => 167 | 9 => 9 | 3 => 3 | 4 => 4 | 0 => 0 | 20 => 20 | 72 => 190 | 76 => 192 | 70 => 188 | 37 => 22 | 75 => 113 | 127 => 208 | 164 => 222 | 5 => 5 | 80 => 111 | n => n, fun | n => n⟩
theorem Tryz.lays156 : Go.Proofs.Lays.n156 Tryz.prog Tryz.lays156_ren := {
  mixed := by kernel_rfl
  f156 := Tryz.func118.trans (congrArg some (by kernel_rfl))
  f165 := Tryz.func155.trans (congrArg some (by kernel_rfl))
  f166 := Tryz.func156.trans (congrArg some (by kernel_rfl))
  f169 := Tryz.func157.trans (congrArg some (by kernel_rfl))
  f240 := Tryz.func179.trans (congrArg some (by kernel_rfl))
  f241 := Tryz.func180.trans (congrArg some (by kernel_rfl))
  f276 := Tryz.func194.trans (congrArg some (by kernel_rfl))
  f277 := Tryz.func195.trans (congrArg some (by kernel_rfl))
  t0 := Tryz.underlying0
  a0 := Tryz.isAgg0
  z0 := Tryz.sizeOf0
  v0 := Tryz.zeroValue0
  t3 := Tryz.underlying3
  a3 := Tryz.isAgg3
  z3 := Tryz.sizeOf3
  v3 := Tryz.zeroValue3
  t4 := Tryz.underlying4
  a4 := Tryz.isAgg4
  z4 := Tryz.sizeOf4
  v4 := Tryz.zeroValue4
  t9 := Tryz.underlying9
  a9 := Tryz.isAgg9
  z9 := Tryz.sizeOf9
  v9 := Tryz.zeroValue9
  t20 := Tryz.underlying20
  a20 := Tryz.isAgg20
  z20 := Tryz.sizeOf20
  v20 := Tryz.zeroValue20
  t31 := Tryz.underlying167
  a31 := Tryz.isAgg167
  z31 := Tryz.sizeOf167
  v31 := Tryz.zeroValue167
  t37 := Tryz.underlying22
  a37 := Tryz.isAgg22
  z37 := Tryz.sizeOf22
  v37 := Tryz.zeroValue22
  t70 := Tryz.underlying188
  a70 := Tryz.isAgg188
  z70 := Tryz.sizeOf188
  v70 := Tryz.zeroValue188
  t72 := Tryz.underlying190
  a72 := Tryz.isAgg190
  z72 := Tryz.sizeOf190
  v72 := Tryz.zeroValue190
  t75 := Tryz.underlying113
  a75 := Tryz.isAgg113
  z75 := Tryz.sizeOf113
  v75 := Tryz.zeroValue113
  t76 := Tryz.underlying192
  a76 := Tryz.isAgg192
  z76 := Tryz.sizeOf192
  v76 := Tryz.zeroValue192
  t127 := Tryz.underlying208
  a127 := Tryz.isAgg208
  z127 := Tryz.sizeOf208
  v127 := Tryz.zeroValue208
  t164 := Tryz.underlying222
  a164 := Tryz.isAgg222
  z164 := Tryz.sizeOf222
  v164 := Tryz.zeroValue222 }
theorem Tryz.Builder_Extra_156 : Builder.Extra Tryz.prog Tryz.lays156_ren := {
  sizeBuilder := by kernel_rfl
  liesBuilder := by kernel_rfl
  t5 := Tryz.underlying5
  a5 := Tryz.isAgg5
  z5 := Tryz.sizeOf5
  v5 := Tryz.zeroValue5
  infoByte := by kernel_rfl
  cellsByte := by kernel_rfl
  sizeByte := by kernel_rfl
  neB5 := by decide }
open Go.RowKit in
/-- No element: the empty string; the world is as it was. (Whatever the slice's address and capacity: a nil slice too.) (LAID: no walk: one application.) -/
theorem Tryz.strings_Join_none (a : Option Addr) (c : Nat) (sep : ByteArray) (w : World) :
    Calls Tryz.prog 118 #[.slice a 0 c, .string sep] w fun e w' => e = .returned (.string ⟨#[]⟩) ∧ w' = w := Any.strings_Join_none Tryz.lays156 Tryz.Builder_Extra_156 a c sep w
open Go.RowKit in
/-- strings.Join: "Join concatenates the elements of its first argument to create a single string. The separator string sep is placed between elements in the resulting string.": HOWEVER MANY ELEMENTS. Below the heap's end the world is as it was. (LAID: no walk: one application.) -/
theorem Tryz.strings_Join (bk o c : Nat) (xs : List ByteArray) (sep : ByteArray) (w : World) (hcells : ∀ (j : Nat) x, xs[j]? = some x → w.cell? ⟨bk, o + j, none⟩ = some (.string x)) (hbk : bk < w.heap.size) (hN : xs.length ≤ 140737488355328) (hcap : xs.length ≤ c) (hlen : (Lib.join (xs.map (·.data.toList)) sep.data.toList).length ≤ 140737488355328) :
    Calls Tryz.prog 118 #[.slice (some ⟨bk, o, none⟩) xs.length c, .string sep] w fun e w' => e = .returned (.string ⟨(Lib.join (xs.map (·.data.toList)) sep.data.toList).toArray⟩) ∧ Below w.heap.size w w' := Any.strings_Join Tryz.lays156 Tryz.Builder_Extra_156 bk o c xs sep w hcells hbk hN hcap hlen
def Tryz.lays137_ren : Go.Shelf.Ren := ⟨fun | 137 => 114 | 217 => 151 | 266 => 175 | n => n, fun | 9 => 9 | 5 => 5 | 3 => 3 | n => n, fun | n => n⟩
theorem Tryz.lays137 : Go.Proofs.Lays.n137 Tryz.prog Tryz.lays137_ren := {
  mixed := by kernel_rfl
  f137 := Tryz.func114.trans (congrArg some (by kernel_rfl))
  f217 := Tryz.func151.trans (congrArg some (by kernel_rfl))
  f266 := Tryz.func175.trans (congrArg some (by kernel_rfl))
  t3 := Tryz.underlying3
  a3 := Tryz.isAgg3
  z3 := Tryz.sizeOf3
  v3 := Tryz.zeroValue3
  t5 := Tryz.underlying5
  a5 := Tryz.isAgg5
  z5 := Tryz.sizeOf5
  v5 := Tryz.zeroValue5
  t9 := Tryz.underlying9
  a9 := Tryz.isAgg9
  z9 := Tryz.sizeOf9
  v9 := Tryz.zeroValue9 }
open Go.RowKit in
/-- strings.IndexByte: "IndexByte returns the index of the first instance of c in s, or -1 if c is not present in s.": IT RETURNS 'Lib.indexByte s c'; the world is as it was. (LAID: no walk: one application.) -/
theorem Tryz.strings_IndexByte (s : ByteArray) (c : Int) (w : World) :
    Calls Tryz.prog 114 #[.string s, .int .u8 c] w fun e w' => e = .returned (.int .i64 (Lib.indexByte s.data.toList c.toNat.toUInt8)) ∧ w' = w := Any.strings_IndexByte Tryz.lays137 s c w
def Tryz.laysM171_ren : Go.Shelf.Ren := ⟨fun | 171 => 117 | 243 => 154 | 246 => 178 | 283 => 181 | 284 => 182 | 285 => 183 | 286 => 184 | 129 => 197 | 317 => 196 | 318 => 198 | 319 => 199 | 320 => 200 | 337 => 202 | 338 => 203 | n => n, fun | 3 => 3 | 9 => 9 | 2 => 2 | 4 => 4 | 171 => 209 | 0 => 0 | 53 => 36 | 37 => 22 | 5 => 5 | 173 => 211 | 212 => 227 | 51 => 174 | 20 => 20 | 213 => 228 | 46 => 146 | 232 => 232 | 233 => 233 | n => n, fun | 17 => 1 | 18 => 2 | 19 => 3 | n => n⟩
theorem Tryz.laysM171 : Go.Proofs.LaysM.n171 Tryz.prog Tryz.laysM171_ren := {
  mixed := by kernel_rfl
  f129 := Tryz.func197.trans (congrArg some (by kernel_rfl))
  f171 := Tryz.func117.trans (congrArg some (by kernel_rfl))
  f243 := Tryz.func154.trans (congrArg some (by kernel_rfl))
  f246 := Tryz.func178.trans (congrArg some (by kernel_rfl))
  f283 := Tryz.func181.trans (congrArg some (by kernel_rfl))
  f284 := Tryz.func182.trans (congrArg some (by kernel_rfl))
  f285 := Tryz.func183.trans (congrArg some (by kernel_rfl))
  f286 := Tryz.func184.trans (congrArg some (by kernel_rfl))
  f317 := Tryz.func196.trans (congrArg some (by kernel_rfl))
  f318 := Tryz.func198.trans (congrArg some (by kernel_rfl))
  f319 := Tryz.func199.trans (congrArg some (by kernel_rfl))
  f320 := Tryz.func200.trans (congrArg some (by kernel_rfl))
  f337 := Tryz.func202.trans (congrArg some (by kernel_rfl))
  f338 := Tryz.func203.trans (congrArg some (by kernel_rfl))
  t0 := Tryz.underlying0
  a0 := Tryz.isAgg0
  z0 := Tryz.sizeOf0
  v0 := Tryz.zeroValue0
  t2 := Tryz.underlying2
  a2 := Tryz.isAgg2
  z2 := Tryz.sizeOf2
  v2 := Tryz.zeroValue2
  t3 := Tryz.underlying3
  a3 := Tryz.isAgg3
  z3 := Tryz.sizeOf3
  v3 := Tryz.zeroValue3
  t4 := Tryz.underlying4
  a4 := Tryz.isAgg4
  z4 := Tryz.sizeOf4
  v4 := Tryz.zeroValue4
  t5 := Tryz.underlying5
  a5 := Tryz.isAgg5
  z5 := Tryz.sizeOf5
  v5 := Tryz.zeroValue5
  t9 := Tryz.underlying9
  a9 := Tryz.isAgg9
  z9 := Tryz.sizeOf9
  v9 := Tryz.zeroValue9
  t20 := Tryz.underlying20
  a20 := Tryz.isAgg20
  z20 := Tryz.sizeOf20
  v20 := Tryz.zeroValue20
  t37 := Tryz.underlying22
  a37 := Tryz.isAgg22
  z37 := Tryz.sizeOf22
  v37 := Tryz.zeroValue22
  t46 := Tryz.underlying146
  a46 := Tryz.isAgg146
  z46 := Tryz.sizeOf146
  v46 := Tryz.zeroValue146
  t51 := Tryz.underlying174
  a51 := Tryz.isAgg174
  z51 := Tryz.sizeOf174
  v51 := Tryz.zeroValue174
  t53 := Tryz.underlying36
  a53 := Tryz.isAgg36
  z53 := Tryz.sizeOf36
  v53 := Tryz.zeroValue36
  t171 := Tryz.underlying209
  a171 := Tryz.isAgg209
  z171 := Tryz.sizeOf209
  v171 := Tryz.zeroValue209
  t173 := Tryz.underlying211
  a173 := Tryz.isAgg211
  z173 := Tryz.sizeOf211
  v173 := Tryz.zeroValue211
  t212 := Tryz.underlying227
  a212 := Tryz.isAgg227
  z212 := Tryz.sizeOf227
  v212 := Tryz.zeroValue227
  t213 := Tryz.underlying228
  a213 := Tryz.isAgg228
  z213 := Tryz.sizeOf228
  t232 := Tryz.underlying232
  a232 := Tryz.isAgg232
  z232 := Tryz.sizeOf232
  v232 := Tryz.zeroValue232
  t233 := Tryz.underlying233
  a233 := Tryz.isAgg233
  z233 := Tryz.sizeOf233
  v233 := Tryz.zeroValue233
  g17 := by kernel_rfl
  g18 := by kernel_rfl
  g19 := by kernel_rfl
  i0 := by kernel_rfl
  i2 := by kernel_rfl
  i3 := by kernel_rfl
  i4 := by kernel_rfl
  i5 := by kernel_rfl
  i9 := by kernel_rfl
  i20 := by kernel_rfl
  i37 := by kernel_rfl
  i46 := by kernel_rfl
  i51 := by kernel_rfl
  i53 := by kernel_rfl
  i171 := by kernel_rfl
  i173 := by kernel_rfl
  i212 := by kernel_rfl
  i232 := by kernel_rfl
  i233 := by kernel_rfl
  m17 := by kernel_rfl
  m18 := by kernel_rfl
  m19 := by kernel_rfl }
open Go.RowKit Go.Sort Go.Lib in
/-- strconv.Itoa: "Itoa is equivalent to FormatInt(int64(i), 10).": i's DECIMAL NUMERAL ('Lib.itoa': a '-' where i is negative, then the digits), FOR EVERY int. The world behind the call: the world before it, new blocks behind the heap (the library's 'var a [24]byte'), draws. (LAID: no walk: one application.) -/
theorem Tryz.strconv_Itoa (n : Int) (h0 : -9223372036854775808 ≤ n) (h1 : n ≤ 9223372036854775807) (w : World) (htab : Lib.TabIs Tryz.prog w "internal/strconv.uint64pow10" .u64 Lib.pow10Tab) :
    Calls Tryz.prog 117 #[.int .i64 n] w fun e w' => e = .returned (.string ⟨(Lib.itoa n).toArray⟩) ∧ ∃ k os, w' = grow (w.drewN k) os := Any.strconv_Itoa Tryz.laysM171 n h0 h1 w htab
def Tryz.lays171_ren : Go.Shelf.Ren := ⟨fun | 171 => 117 | 243 => 154 | 246 => 178 | 283 => 181 | 284 => 182 | 285 => 183 | 286 => 184 | 129 => 197 | 317 => 196 | 318 => 198 | 319 => 199 | 320 => 200 | 337 => 202 | 338 => 203 | n => n, fun | 3 => 3 | 9 => 9 | 2 => 2 | 4 => 4 | 171 => 209 | 0 => 0 | 53 => 36 | 37 => 22 | 5 => 5 | 173 => 211 | 212 => 227 | 51 => 174 | 20 => 20 | 213 => 228 | 46 => 146 | 232 => 232 | 233 => 233 | n => n, fun | 17 => 1 | 18 => 2 | 19 => 3 | n => n⟩
theorem Tryz.lays171 : Go.Proofs.Lays.n171 Tryz.prog Tryz.lays171_ren := {
  mixed := by kernel_rfl
  f129 := Tryz.func197.trans (congrArg some (by kernel_rfl))
  f171 := Tryz.func117.trans (congrArg some (by kernel_rfl))
  f243 := Tryz.func154.trans (congrArg some (by kernel_rfl))
  f246 := Tryz.func178.trans (congrArg some (by kernel_rfl))
  f283 := Tryz.func181.trans (congrArg some (by kernel_rfl))
  f284 := Tryz.func182.trans (congrArg some (by kernel_rfl))
  f285 := Tryz.func183.trans (congrArg some (by kernel_rfl))
  f286 := Tryz.func184.trans (congrArg some (by kernel_rfl))
  f317 := Tryz.func196.trans (congrArg some (by kernel_rfl))
  f318 := Tryz.func198.trans (congrArg some (by kernel_rfl))
  f319 := Tryz.func199.trans (congrArg some (by kernel_rfl))
  f320 := Tryz.func200.trans (congrArg some (by kernel_rfl))
  f337 := Tryz.func202.trans (congrArg some (by kernel_rfl))
  f338 := Tryz.func203.trans (congrArg some (by kernel_rfl))
  t0 := Tryz.underlying0
  a0 := Tryz.isAgg0
  z0 := Tryz.sizeOf0
  v0 := Tryz.zeroValue0
  t2 := Tryz.underlying2
  a2 := Tryz.isAgg2
  z2 := Tryz.sizeOf2
  v2 := Tryz.zeroValue2
  t3 := Tryz.underlying3
  a3 := Tryz.isAgg3
  z3 := Tryz.sizeOf3
  v3 := Tryz.zeroValue3
  t4 := Tryz.underlying4
  a4 := Tryz.isAgg4
  z4 := Tryz.sizeOf4
  v4 := Tryz.zeroValue4
  t5 := Tryz.underlying5
  a5 := Tryz.isAgg5
  z5 := Tryz.sizeOf5
  v5 := Tryz.zeroValue5
  t9 := Tryz.underlying9
  a9 := Tryz.isAgg9
  z9 := Tryz.sizeOf9
  v9 := Tryz.zeroValue9
  t20 := Tryz.underlying20
  a20 := Tryz.isAgg20
  z20 := Tryz.sizeOf20
  v20 := Tryz.zeroValue20
  t37 := Tryz.underlying22
  a37 := Tryz.isAgg22
  z37 := Tryz.sizeOf22
  v37 := Tryz.zeroValue22
  t46 := Tryz.underlying146
  a46 := Tryz.isAgg146
  z46 := Tryz.sizeOf146
  v46 := Tryz.zeroValue146
  t51 := Tryz.underlying174
  a51 := Tryz.isAgg174
  z51 := Tryz.sizeOf174
  v51 := Tryz.zeroValue174
  t53 := Tryz.underlying36
  a53 := Tryz.isAgg36
  z53 := Tryz.sizeOf36
  v53 := Tryz.zeroValue36
  t171 := Tryz.underlying209
  a171 := Tryz.isAgg209
  z171 := Tryz.sizeOf209
  v171 := Tryz.zeroValue209
  t173 := Tryz.underlying211
  a173 := Tryz.isAgg211
  z173 := Tryz.sizeOf211
  v173 := Tryz.zeroValue211
  t212 := Tryz.underlying227
  a212 := Tryz.isAgg227
  z212 := Tryz.sizeOf227
  v212 := Tryz.zeroValue227
  t213 := Tryz.underlying228
  a213 := Tryz.isAgg228
  z213 := Tryz.sizeOf228
  t232 := Tryz.underlying232
  a232 := Tryz.isAgg232
  z232 := Tryz.sizeOf232
  v232 := Tryz.zeroValue232
  t233 := Tryz.underlying233
  a233 := Tryz.isAgg233
  z233 := Tryz.sizeOf233
  v233 := Tryz.zeroValue233
  g17 := by kernel_rfl
  g18 := by kernel_rfl
  g19 := by kernel_rfl }
open Go.RowKit Go.Sort Go.Lib in
/-- THE ROAD WITHOUT THE TABLE: 0 <= i < 100: NO PREMISE ON THE WORLD, AND THE WORLD IS AS IT WAS: a row that keeps its argument in that range need list no table ('laid = []'). (LAID: no walk: one application.) -/
theorem Tryz.strconv_Itoa_small (i : Nat) (hi : i < 100) (w : World) :
    Calls Tryz.prog 117 #[.int .i64 i] w fun e w' => e = .returned (.string ⟨(Lib.decDigits i).toArray⟩) ∧ w' = w := Any.strconv_Itoa_small Tryz.lays171 i hi w
end Go.Proofs
end
