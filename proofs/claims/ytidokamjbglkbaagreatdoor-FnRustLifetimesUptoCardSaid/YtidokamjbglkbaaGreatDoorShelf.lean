/-
  DERIVED: THE SHELF's CONTRACTS AT THIS DUMP, IN PLAIN WORDS (tools/lay-plain.mjs out of 'TryzShelf.lean', which tools/lay-shelf.mjs wrote): THE SAME DECLARATIONS UNDER THE SAME NAMES: 'import', 'namespace', 'open', 'def', 'theorem' AND NOTHING ELSE: no command of the shelf's: FOR A HAND-IN. Each laying: the table of numbers ('.._ren') and one theorem, a field a fact of the dump's own or the kernel's comparison; each contract: ONE APPLICATION.
-/
import Derived.Shelf.Small.Utf8
import Derived.Shelf.Strconv.Itoa0
import Derived.Shelf.Strconv.Itoa1
import Derived.Shelf.LaysM
import Derived.Shelf.Strconv.Itoa2
import Derived.Shelf.Strconv.Itoa3
import Derived.Shelf.Strconv.Itoa4
import Derived.Shelf.Strings.LastIndex
import Derived.Shelf.Strings.LastIndexAll
import Derived.Shelf.Strings.Prefix
import Derived.Shelf.Unicode.ValidAny
import Derived.Test.YtidokamjbglkbaaGreatDoorProg
namespace Go.Proofs
open Go.Shelf
def Tryz.lays119_ren : Go.Shelf.Ren := ⟨fun | 119 => 128 | n => n, fun | 21 => 21 | 4 => 4 | n => n, fun | n => n⟩
theorem Tryz.lays119 : Go.Proofs.Lays.n119 Tryz.prog Tryz.lays119_ren := {
  mixed := by kernel_rfl
  f119 := Tryz.func128.trans (congrArg some (by kernel_rfl))
  t4 := Tryz.underlying4
  a4 := Tryz.isAgg4
  z4 := Tryz.sizeOf4
  v4 := Tryz.zeroValue4
  t21 := Tryz.underlying21
  a21 := Tryz.isAgg21
  z21 := Tryz.sizeOf21
  v21 := Tryz.zeroValue21 }
/-- utf8.ValidRune: "ValidRune reports whether r can be legally encoded as UTF-8. Code points that are out of range or a surrogate half are illegal.": IT RETURNS 'Lib.validRune r'; the world is as it was. (LAID: no walk: one application.) -/
theorem Tryz.utf8_ValidRune (r : Int) (w : World) :
    Calls Tryz.prog 128 #[.int .i32 r] w fun e w' => e = .returned (.bool (Lib.validRune r)) ∧ w' = w := Any.utf8_ValidRune Tryz.lays119 r w
def Tryz.lays129_ren : Go.Shelf.Ren := ⟨fun | 129 => 132 | n => n, fun | 53 => 22 | 3 => 3 | 4 => 4 | 46 => 92 | 5 => 5 | 9 => 9 | n => n, fun | n => n⟩
theorem Tryz.lays129 : Go.Proofs.Lays.n129 Tryz.prog Tryz.lays129_ren := {
  mixed := by kernel_rfl
  f129 := Tryz.func132.trans (congrArg some (by kernel_rfl))
  t3 := Tryz.underlying3
  a3 := Tryz.isAgg3
  z3 := Tryz.sizeOf3
  v3 := Tryz.zeroValue3
  t4 := Tryz.underlying4
  a4 := Tryz.isAgg4
  z4 := Tryz.sizeOf4
  v4 := Tryz.zeroValue4
  t5 := Tryz.underlying5
  a5 := Tryz.isAgg5
  z5 := Tryz.sizeOf5
  v5 := Tryz.zeroValue5
  t9 := Tryz.underlying9
  a9 := Tryz.isAgg9
  z9 := Tryz.sizeOf9
  v9 := Tryz.zeroValue9
  t46 := Tryz.underlying92
  a46 := Tryz.isAgg92
  z46 := Tryz.sizeOf92
  v46 := Tryz.zeroValue92
  t53 := Tryz.underlying22
  a53 := Tryz.isAgg22
  z53 := Tryz.sizeOf22
  v53 := Tryz.zeroValue22 }
/-- bits.Len64: "Len64 returns the minimum number of bits required to represent x; the result is 0 for x == 0.": IT RETURNS 'Lib.bitLen x'; the world is as it was. ('h0', 'h1': x is a uint64.) (LAID: no walk: one application.) -/
theorem Tryz.bits_Len64 (x : Int) (w : World) (h0 : 0 ≤ x) (h1 : x ≤ 18446744073709551615) :
    Calls Tryz.prog 132 #[.int .u64 x] w fun e w' => e = .returned (.int .i64 (Lib.bitLen x.toNat)) ∧ w' = w := Any.bits_Len64 Tryz.lays129 x w h0 h1
def Tryz.lays317_ren : Go.Shelf.Ren := ⟨fun | 317 => 131 | n => n, fun | 3 => 3 | 46 => 92 | n => n, fun | n => n⟩
theorem Tryz.lays317 : Go.Proofs.Lays.n317 Tryz.prog Tryz.lays317_ren := {
  mixed := by kernel_rfl
  f317 := Tryz.func131.trans (congrArg some (by kernel_rfl))
  t3 := Tryz.underlying3
  a3 := Tryz.isAgg3
  z3 := Tryz.sizeOf3
  v3 := Tryz.zeroValue3
  t46 := Tryz.underlying92
  a46 := Tryz.isAgg92
  z46 := Tryz.sizeOf92
  v46 := Tryz.zeroValue92 }
open Go.Lib in
/-- internal/strconv.log10Pow2: "log10Pow2(x) returns ⌊log₁₀ 2**x⌋ = ⌊x * log₁₀ 2⌋.": '(x * 78913) >> 18', at an x up to 64 (a length in bits). The world is as it was. (LAID: no walk: one application.) -/
theorem Tryz.internal_strconv_log10Pow2 (x : Nat) (h : x ≤ 64) (w : World) :
    Calls Tryz.prog 131 #[.int .i64 x] w fun e w' => e = .returned (.int .i64 (Lib.l10 x)) ∧ w' = w := Any.internal_strconv_log10Pow2 Tryz.lays317 x h w
def Tryz.lays318_ren : Go.Shelf.Ren := ⟨fun | 318 => 133 | n => n, fun | 3 => 3 | 4 => 4 | n => n, fun | n => n⟩
theorem Tryz.lays318 : Go.Proofs.Lays.n318 Tryz.prog Tryz.lays318_ren := {
  mixed := by kernel_rfl
  f318 := Tryz.func133.trans (congrArg some (by kernel_rfl))
  t3 := Tryz.underlying3
  a3 := Tryz.isAgg3
  z3 := Tryz.sizeOf3
  v3 := Tryz.zeroValue3
  t4 := Tryz.underlying4
  a4 := Tryz.isAgg4
  z4 := Tryz.sizeOf4
  v4 := Tryz.zeroValue4 }
open Go.Lib in
/-- internal/strconv.bool2: "bool2 converts b to an integer: 1 for true, 0 for false." The world is as it was. (LAID: no walk: one application.) -/
theorem Tryz.internal_strconv_bool2_int (b : Bool) (w : World) :
    Calls Tryz.prog 133 #[.bool b] w fun e w' => e = .returned (.int .i64 (if b then 1 else 0)) ∧ w' = w := Any.internal_strconv_bool2_int Tryz.lays318 b w
def Tryz.lays283_ren : Go.Shelf.Ren := ⟨fun | 283 => 123 | n => n, fun | 3 => 3 | 9 => 9 | 4 => 4 | n => n, fun | n => n⟩
theorem Tryz.lays283 : Go.Proofs.Lays.n283 Tryz.prog Tryz.lays283_ren := {
  mixed := by kernel_rfl
  f283 := Tryz.func123.trans (congrArg some (by kernel_rfl))
  t3 := Tryz.underlying3
  a3 := Tryz.isAgg3
  z3 := Tryz.sizeOf3
  v3 := Tryz.zeroValue3
  t4 := Tryz.underlying4
  a4 := Tryz.isAgg4
  z4 := Tryz.sizeOf4
  v4 := Tryz.zeroValue4
  t9 := Tryz.underlying9
  a9 := Tryz.isAgg9
  z9 := Tryz.sizeOf9
  v9 := Tryz.zeroValue9 }
open Go.Lib in
/-- internal/strconv.small: "small returns the string for an i with 0 <= i < nSmalls.": i's decimal numeral. The world is as it was. (LAID: no walk: one application.) -/
theorem Tryz.internal_strconv_small (i : Nat) (h : i < 100) (w : World) :
    Calls Tryz.prog 123 #[.int .i64 i] w fun e w' => e = .returned (.string ⟨(Lib.decDigits i).toArray⟩) ∧ w' = w := Any.internal_strconv_small Tryz.lays283 i h w
def Tryz.laysM284_ren : Go.Shelf.Ren := ⟨fun | 284 => 124 | 129 => 132 | 317 => 131 | 318 => 133 | n => n, fun | 53 => 22 | 3 => 3 | 212 => 139 | 0 => 0 | 4 => 4 | 46 => 92 | 5 => 5 | 9 => 9 | n => n, fun | 17 => 4 | n => n⟩
theorem Tryz.laysM284 : Go.Proofs.LaysM.n284 Tryz.prog Tryz.laysM284_ren := {
  mixed := by kernel_rfl
  f129 := Tryz.func132.trans (congrArg some (by kernel_rfl))
  f284 := Tryz.func124.trans (congrArg some (by kernel_rfl))
  f317 := Tryz.func131.trans (congrArg some (by kernel_rfl))
  f318 := Tryz.func133.trans (congrArg some (by kernel_rfl))
  t0 := Tryz.underlying0
  a0 := Tryz.isAgg0
  z0 := Tryz.sizeOf0
  v0 := Tryz.zeroValue0
  t3 := Tryz.underlying3
  a3 := Tryz.isAgg3
  z3 := Tryz.sizeOf3
  v3 := Tryz.zeroValue3
  t4 := Tryz.underlying4
  a4 := Tryz.isAgg4
  z4 := Tryz.sizeOf4
  v4 := Tryz.zeroValue4
  t5 := Tryz.underlying5
  a5 := Tryz.isAgg5
  z5 := Tryz.sizeOf5
  v5 := Tryz.zeroValue5
  t9 := Tryz.underlying9
  a9 := Tryz.isAgg9
  z9 := Tryz.sizeOf9
  v9 := Tryz.zeroValue9
  t46 := Tryz.underlying92
  a46 := Tryz.isAgg92
  z46 := Tryz.sizeOf92
  v46 := Tryz.zeroValue92
  t53 := Tryz.underlying22
  a53 := Tryz.isAgg22
  z53 := Tryz.sizeOf22
  v53 := Tryz.zeroValue22
  t212 := Tryz.underlying139
  a212 := Tryz.isAgg139
  z212 := Tryz.sizeOf139
  v212 := Tryz.zeroValue139
  g17 := by kernel_rfl
  i0 := by kernel_rfl
  i3 := by kernel_rfl
  i4 := by kernel_rfl
  i5 := by kernel_rfl
  i9 := by kernel_rfl
  i46 := by kernel_rfl
  i53 := by kernel_rfl
  i212 := by kernel_rfl
  m17 := by kernel_rfl }
open Go.Lib in
/-- internal/strconv.numDigits, at a d that is not 0: THE NUMBER OF d's DECIMAL DIGITS. The world is as it was. (LAID: no walk: one application.) -/
theorem Tryz.internal_strconv_numDigits (u : Nat) (h1 : 1 ≤ u) (h2 : u < 18446744073709551616) (w : World) (htab : Lib.TabIs Tryz.prog w "internal/strconv.uint64pow10" .u64 Lib.pow10Tab) :
    Calls Tryz.prog 124 #[.int .u64 u] w fun e w' => e = .returned (.int .i64 (Lib.nDigits u)) ∧ w' = w := Any.internal_strconv_numDigits Tryz.laysM284 u h1 h2 w htab
def Tryz.lays285_ren : Go.Shelf.Ren := ⟨fun | 285 => 125 | n => n, fun | 37 => 39 | 53 => 22 | 3 => 3 | 4 => 4 | 51 => 140 | 9 => 9 | 5 => 5 | 0 => 0 | n => n, fun | n => n⟩
theorem Tryz.lays285 : Go.Proofs.Lays.n285 Tryz.prog Tryz.lays285_ren := {
  mixed := by kernel_rfl
  f285 := Tryz.func125.trans (congrArg some (by kernel_rfl))
  t0 := Tryz.underlying0
  a0 := Tryz.isAgg0
  z0 := Tryz.sizeOf0
  v0 := Tryz.zeroValue0
  t3 := Tryz.underlying3
  a3 := Tryz.isAgg3
  z3 := Tryz.sizeOf3
  v3 := Tryz.zeroValue3
  t4 := Tryz.underlying4
  a4 := Tryz.isAgg4
  z4 := Tryz.sizeOf4
  v4 := Tryz.zeroValue4
  t5 := Tryz.underlying5
  a5 := Tryz.isAgg5
  z5 := Tryz.sizeOf5
  v5 := Tryz.zeroValue5
  t9 := Tryz.underlying9
  a9 := Tryz.isAgg9
  z9 := Tryz.sizeOf9
  v9 := Tryz.zeroValue9
  t37 := Tryz.underlying39
  a37 := Tryz.isAgg39
  z37 := Tryz.sizeOf39
  v37 := Tryz.zeroValue39
  t51 := Tryz.underlying140
  a51 := Tryz.isAgg140
  z51 := Tryz.sizeOf140
  v51 := Tryz.zeroValue140
  t53 := Tryz.underlying22
  a53 := Tryz.isAgg22
  z53 := Tryz.sizeOf22
  v53 := Tryz.zeroValue22 }
open Go.RowKit Go.Sort Go.Lib in
/-- internal/strconv.formatBase10: "formatBase10 formats the decimal representation of u into a. The caller is responsible for ensuring that a is big enough to hold u. If a is too big, leading zeros will be filled in as needed.": THE ROW HOLDS u's DIGITS ('FmtInv .. 0 ..': every place t holds 'dg u (len - 1 - t)'); all else is as it was but for the count of draws. (LAID: no walk: one application.) -/
theorem Tryz.internal_strconv_formatBase10 (blk off cap : Nat) (u : Nat) (d : Array UInt8) (w : World) (hH : Holds (fun (b : UInt8) => Value.int .u8 (b.toNat : Int)) w blk off d) (hu : u < 10 ^ d.size) (hu64 : u < 18446744073709551616) (hsz : d.size < 4611686018427387904) :
    Calls Tryz.prog 125 #[.slice (some ⟨blk, off, none⟩) d.size cap, .int .u64 u] w fun e w' =>
      e = .returned (.tuple #[]) ∧ ∃ (n v' : Nat) (dk : Array UInt8), w' = (putRow (fun (b : UInt8) => Value.int .u8 (b.toNat : Int)) w blk off dk).drewN n ∧ FmtInv d.size u 0 v' dk := Any.internal_strconv_formatBase10 Tryz.lays285 blk off cap u d w hH hu hu64 hsz
def Tryz.laysM246_ren : Go.Shelf.Ren := ⟨fun | 246 => 109 | 283 => 123 | 284 => 124 | 285 => 125 | 286 => 126 | 129 => 132 | 317 => 131 | 318 => 133 | 319 => 134 | 320 => 135 | 337 => 139 | 338 => 140 | n => n, fun | 2 => 2 | 3 => 3 | 9 => 9 | 4 => 4 | 171 => 130 | 0 => 0 | 53 => 22 | 37 => 39 | 5 => 5 | 173 => 133 | 212 => 139 | 51 => 140 | 20 => 20 | 213 => 141 | 46 => 92 | 232 => 147 | 233 => 148 | n => n, fun | 17 => 4 | 18 => 6 | 19 => 7 | n => n⟩
theorem Tryz.laysM246 : Go.Proofs.LaysM.n246 Tryz.prog Tryz.laysM246_ren := {
  mixed := by kernel_rfl
  f129 := Tryz.func132.trans (congrArg some (by kernel_rfl))
  f246 := Tryz.func109.trans (congrArg some (by kernel_rfl))
  f283 := Tryz.func123.trans (congrArg some (by kernel_rfl))
  f284 := Tryz.func124.trans (congrArg some (by kernel_rfl))
  f285 := Tryz.func125.trans (congrArg some (by kernel_rfl))
  f286 := Tryz.func126.trans (congrArg some (by kernel_rfl))
  f317 := Tryz.func131.trans (congrArg some (by kernel_rfl))
  f318 := Tryz.func133.trans (congrArg some (by kernel_rfl))
  f319 := Tryz.func134.trans (congrArg some (by kernel_rfl))
  f320 := Tryz.func135.trans (congrArg some (by kernel_rfl))
  f337 := Tryz.func139.trans (congrArg some (by kernel_rfl))
  f338 := Tryz.func140.trans (congrArg some (by kernel_rfl))
  t0 := Tryz.underlying0
  a0 := Tryz.isAgg0
  z0 := Tryz.sizeOf0
  v0 := Tryz.zeroValue0
  t2 := Tryz.underlying2
  a2 := Tryz.isAgg2
  z2 := Tryz.sizeOf2
  v2 := Tryz.zeroValue2
  t3 := Tryz.underlying3
  a3 := Tryz.isAgg3
  z3 := Tryz.sizeOf3
  v3 := Tryz.zeroValue3
  t4 := Tryz.underlying4
  a4 := Tryz.isAgg4
  z4 := Tryz.sizeOf4
  v4 := Tryz.zeroValue4
  t5 := Tryz.underlying5
  a5 := Tryz.isAgg5
  z5 := Tryz.sizeOf5
  v5 := Tryz.zeroValue5
  t9 := Tryz.underlying9
  a9 := Tryz.isAgg9
  z9 := Tryz.sizeOf9
  v9 := Tryz.zeroValue9
  t20 := Tryz.underlying20
  a20 := Tryz.isAgg20
  z20 := Tryz.sizeOf20
  v20 := Tryz.zeroValue20
  t37 := Tryz.underlying39
  a37 := Tryz.isAgg39
  z37 := Tryz.sizeOf39
  v37 := Tryz.zeroValue39
  t46 := Tryz.underlying92
  a46 := Tryz.isAgg92
  z46 := Tryz.sizeOf92
  v46 := Tryz.zeroValue92
  t51 := Tryz.underlying140
  a51 := Tryz.isAgg140
  z51 := Tryz.sizeOf140
  v51 := Tryz.zeroValue140
  t53 := Tryz.underlying22
  a53 := Tryz.isAgg22
  z53 := Tryz.sizeOf22
  v53 := Tryz.zeroValue22
  t171 := Tryz.underlying130
  a171 := Tryz.isAgg130
  z171 := Tryz.sizeOf130
  v171 := Tryz.zeroValue130
  t173 := Tryz.underlying133
  a173 := Tryz.isAgg133
  z173 := Tryz.sizeOf133
  v173 := Tryz.zeroValue133
  t212 := Tryz.underlying139
  a212 := Tryz.isAgg139
  z212 := Tryz.sizeOf139
  v212 := Tryz.zeroValue139
  t213 := Tryz.underlying141
  a213 := Tryz.isAgg141
  z213 := Tryz.sizeOf141
  t232 := Tryz.underlying147
  a232 := Tryz.isAgg147
  z232 := Tryz.sizeOf147
  v232 := Tryz.zeroValue147
  t233 := Tryz.underlying148
  a233 := Tryz.isAgg148
  z233 := Tryz.sizeOf148
  v233 := Tryz.zeroValue148
  g17 := by kernel_rfl
  g18 := by kernel_rfl
  g19 := by kernel_rfl
  i0 := by kernel_rfl
  i2 := by kernel_rfl
  i3 := by kernel_rfl
  i4 := by kernel_rfl
  i5 := by kernel_rfl
  i9 := by kernel_rfl
  i20 := by kernel_rfl
  i37 := by kernel_rfl
  i46 := by kernel_rfl
  i51 := by kernel_rfl
  i53 := by kernel_rfl
  i171 := by kernel_rfl
  i173 := by kernel_rfl
  i212 := by kernel_rfl
  i232 := by kernel_rfl
  i233 := by kernel_rfl
  m17 := by kernel_rfl
  m18 := by kernel_rfl
  m19 := by kernel_rfl }
open Go.RowKit Go.Sort Go.Lib in
/-- internal/strconv.FormatInt: "FormatInt returns the string representation of i in the given base": AT BASE 10: i's decimal numeral, for every int64. The world behind the call: the world before it, new blocks behind the heap, draws. (LAID: no walk: one application.) -/
theorem Tryz.internal_strconv_FormatInt_10 (n : Int) (h0 : -9223372036854775808 ≤ n) (h1 : n ≤ 9223372036854775807) (w : World) (htab : Lib.TabIs Tryz.prog w "internal/strconv.uint64pow10" .u64 Lib.pow10Tab) :
    Calls Tryz.prog 109 #[.int .i64 n, .int .i64 10] w fun e w' => e = .returned (.string ⟨(Lib.itoa n).toArray⟩) ∧ ∃ k os, w' = grow (w.drewN k) os := Any.internal_strconv_FormatInt_10 Tryz.laysM246 n h0 h1 w htab
def Tryz.lays246_ren : Go.Shelf.Ren := ⟨fun | 246 => 109 | 283 => 123 | 284 => 124 | 285 => 125 | 286 => 126 | 129 => 132 | 317 => 131 | 318 => 133 | 319 => 134 | 320 => 135 | 337 => 139 | 338 => 140 | n => n, fun | 2 => 2 | 3 => 3 | 9 => 9 | 4 => 4 | 171 => 130 | 0 => 0 | 53 => 22 | 37 => 39 | 5 => 5 | 173 => 133 | 212 => 139 | 51 => 140 | 20 => 20 | 213 => 141 | 46 => 92 | 232 => 147 | 233 => 148 | n => n, fun | 17 => 4 | 18 => 6 | 19 => 7 | n => n⟩
theorem Tryz.lays246 : Go.Proofs.Lays.n246 Tryz.prog Tryz.lays246_ren := {
  mixed := by kernel_rfl
  f129 := Tryz.func132.trans (congrArg some (by kernel_rfl))
  f246 := Tryz.func109.trans (congrArg some (by kernel_rfl))
  f283 := Tryz.func123.trans (congrArg some (by kernel_rfl))
  f284 := Tryz.func124.trans (congrArg some (by kernel_rfl))
  f285 := Tryz.func125.trans (congrArg some (by kernel_rfl))
  f286 := Tryz.func126.trans (congrArg some (by kernel_rfl))
  f317 := Tryz.func131.trans (congrArg some (by kernel_rfl))
  f318 := Tryz.func133.trans (congrArg some (by kernel_rfl))
  f319 := Tryz.func134.trans (congrArg some (by kernel_rfl))
  f320 := Tryz.func135.trans (congrArg some (by kernel_rfl))
  f337 := Tryz.func139.trans (congrArg some (by kernel_rfl))
  f338 := Tryz.func140.trans (congrArg some (by kernel_rfl))
  t0 := Tryz.underlying0
  a0 := Tryz.isAgg0
  z0 := Tryz.sizeOf0
  v0 := Tryz.zeroValue0
  t2 := Tryz.underlying2
  a2 := Tryz.isAgg2
  z2 := Tryz.sizeOf2
  v2 := Tryz.zeroValue2
  t3 := Tryz.underlying3
  a3 := Tryz.isAgg3
  z3 := Tryz.sizeOf3
  v3 := Tryz.zeroValue3
  t4 := Tryz.underlying4
  a4 := Tryz.isAgg4
  z4 := Tryz.sizeOf4
  v4 := Tryz.zeroValue4
  t5 := Tryz.underlying5
  a5 := Tryz.isAgg5
  z5 := Tryz.sizeOf5
  v5 := Tryz.zeroValue5
  t9 := Tryz.underlying9
  a9 := Tryz.isAgg9
  z9 := Tryz.sizeOf9
  v9 := Tryz.zeroValue9
  t20 := Tryz.underlying20
  a20 := Tryz.isAgg20
  z20 := Tryz.sizeOf20
  v20 := Tryz.zeroValue20
  t37 := Tryz.underlying39
  a37 := Tryz.isAgg39
  z37 := Tryz.sizeOf39
  v37 := Tryz.zeroValue39
  t46 := Tryz.underlying92
  a46 := Tryz.isAgg92
  z46 := Tryz.sizeOf92
  v46 := Tryz.zeroValue92
  t51 := Tryz.underlying140
  a51 := Tryz.isAgg140
  z51 := Tryz.sizeOf140
  v51 := Tryz.zeroValue140
  t53 := Tryz.underlying22
  a53 := Tryz.isAgg22
  z53 := Tryz.sizeOf22
  v53 := Tryz.zeroValue22
  t171 := Tryz.underlying130
  a171 := Tryz.isAgg130
  z171 := Tryz.sizeOf130
  v171 := Tryz.zeroValue130
  t173 := Tryz.underlying133
  a173 := Tryz.isAgg133
  z173 := Tryz.sizeOf133
  v173 := Tryz.zeroValue133
  t212 := Tryz.underlying139
  a212 := Tryz.isAgg139
  z212 := Tryz.sizeOf139
  v212 := Tryz.zeroValue139
  t213 := Tryz.underlying141
  a213 := Tryz.isAgg141
  z213 := Tryz.sizeOf141
  t232 := Tryz.underlying147
  a232 := Tryz.isAgg147
  z232 := Tryz.sizeOf147
  v232 := Tryz.zeroValue147
  t233 := Tryz.underlying148
  a233 := Tryz.isAgg148
  z233 := Tryz.sizeOf148
  v233 := Tryz.zeroValue148
  g17 := by kernel_rfl
  g18 := by kernel_rfl
  g19 := by kernel_rfl }
open Go.RowKit Go.Sort Go.Lib in
/-- THE ROAD WITHOUT THE TABLE: 0 <= i < 100: two constants are read, nothing is laid: no premise on the world, and the world is as it was. (LAID: no walk: one application.) -/
theorem Tryz.internal_strconv_FormatInt_10_small (i : Nat) (hi : i < 100) (w : World) :
    Calls Tryz.prog 109 #[.int .i64 i, .int .i64 10] w fun e w' => e = .returned (.string ⟨(Lib.decDigits i).toArray⟩) ∧ w' = w := Any.internal_strconv_FormatInt_10_small Tryz.lays246 i hi w
def Tryz.laysM243_ren : Go.Shelf.Ren := ⟨fun | 243 => 114 | 246 => 109 | 283 => 123 | 284 => 124 | 285 => 125 | 286 => 126 | 129 => 132 | 317 => 131 | 318 => 133 | 319 => 134 | 320 => 135 | 337 => 139 | 338 => 140 | n => n, fun | 3 => 3 | 9 => 9 | 2 => 2 | 4 => 4 | 171 => 130 | 0 => 0 | 53 => 22 | 37 => 39 | 5 => 5 | 173 => 133 | 212 => 139 | 51 => 140 | 20 => 20 | 213 => 141 | 46 => 92 | 232 => 147 | 233 => 148 | n => n, fun | 17 => 4 | 18 => 6 | 19 => 7 | n => n⟩
theorem Tryz.laysM243 : Go.Proofs.LaysM.n243 Tryz.prog Tryz.laysM243_ren := {
  mixed := by kernel_rfl
  f129 := Tryz.func132.trans (congrArg some (by kernel_rfl))
  f243 := Tryz.func114.trans (congrArg some (by kernel_rfl))
  f246 := Tryz.func109.trans (congrArg some (by kernel_rfl))
  f283 := Tryz.func123.trans (congrArg some (by kernel_rfl))
  f284 := Tryz.func124.trans (congrArg some (by kernel_rfl))
  f285 := Tryz.func125.trans (congrArg some (by kernel_rfl))
  f286 := Tryz.func126.trans (congrArg some (by kernel_rfl))
  f317 := Tryz.func131.trans (congrArg some (by kernel_rfl))
  f318 := Tryz.func133.trans (congrArg some (by kernel_rfl))
  f319 := Tryz.func134.trans (congrArg some (by kernel_rfl))
  f320 := Tryz.func135.trans (congrArg some (by kernel_rfl))
  f337 := Tryz.func139.trans (congrArg some (by kernel_rfl))
  f338 := Tryz.func140.trans (congrArg some (by kernel_rfl))
  t0 := Tryz.underlying0
  a0 := Tryz.isAgg0
  z0 := Tryz.sizeOf0
  v0 := Tryz.zeroValue0
  t2 := Tryz.underlying2
  a2 := Tryz.isAgg2
  z2 := Tryz.sizeOf2
  v2 := Tryz.zeroValue2
  t3 := Tryz.underlying3
  a3 := Tryz.isAgg3
  z3 := Tryz.sizeOf3
  v3 := Tryz.zeroValue3
  t4 := Tryz.underlying4
  a4 := Tryz.isAgg4
  z4 := Tryz.sizeOf4
  v4 := Tryz.zeroValue4
  t5 := Tryz.underlying5
  a5 := Tryz.isAgg5
  z5 := Tryz.sizeOf5
  v5 := Tryz.zeroValue5
  t9 := Tryz.underlying9
  a9 := Tryz.isAgg9
  z9 := Tryz.sizeOf9
  v9 := Tryz.zeroValue9
  t20 := Tryz.underlying20
  a20 := Tryz.isAgg20
  z20 := Tryz.sizeOf20
  v20 := Tryz.zeroValue20
  t37 := Tryz.underlying39
  a37 := Tryz.isAgg39
  z37 := Tryz.sizeOf39
  v37 := Tryz.zeroValue39
  t46 := Tryz.underlying92
  a46 := Tryz.isAgg92
  z46 := Tryz.sizeOf92
  v46 := Tryz.zeroValue92
  t51 := Tryz.underlying140
  a51 := Tryz.isAgg140
  z51 := Tryz.sizeOf140
  v51 := Tryz.zeroValue140
  t53 := Tryz.underlying22
  a53 := Tryz.isAgg22
  z53 := Tryz.sizeOf22
  v53 := Tryz.zeroValue22
  t171 := Tryz.underlying130
  a171 := Tryz.isAgg130
  z171 := Tryz.sizeOf130
  v171 := Tryz.zeroValue130
  t173 := Tryz.underlying133
  a173 := Tryz.isAgg133
  z173 := Tryz.sizeOf133
  v173 := Tryz.zeroValue133
  t212 := Tryz.underlying139
  a212 := Tryz.isAgg139
  z212 := Tryz.sizeOf139
  v212 := Tryz.zeroValue139
  t213 := Tryz.underlying141
  a213 := Tryz.isAgg141
  z213 := Tryz.sizeOf141
  t232 := Tryz.underlying147
  a232 := Tryz.isAgg147
  z232 := Tryz.sizeOf147
  v232 := Tryz.zeroValue147
  t233 := Tryz.underlying148
  a233 := Tryz.isAgg148
  z233 := Tryz.sizeOf148
  v233 := Tryz.zeroValue148
  g17 := by kernel_rfl
  g18 := by kernel_rfl
  g19 := by kernel_rfl
  i0 := by kernel_rfl
  i2 := by kernel_rfl
  i3 := by kernel_rfl
  i4 := by kernel_rfl
  i5 := by kernel_rfl
  i9 := by kernel_rfl
  i20 := by kernel_rfl
  i37 := by kernel_rfl
  i46 := by kernel_rfl
  i51 := by kernel_rfl
  i53 := by kernel_rfl
  i171 := by kernel_rfl
  i173 := by kernel_rfl
  i212 := by kernel_rfl
  i232 := by kernel_rfl
  i233 := by kernel_rfl
  m17 := by kernel_rfl
  m18 := by kernel_rfl
  m19 := by kernel_rfl }
open Go.RowKit Go.Sort Go.Lib in
/-- internal/strconv.Itoa: "Itoa is equivalent to FormatInt(int64(i), 10).": i's decimal numeral, for every int. (LAID: no walk: one application.) -/
theorem Tryz.internal_strconv_Itoa (n : Int) (h0 : -9223372036854775808 ≤ n) (h1 : n ≤ 9223372036854775807) (w : World) (htab : Lib.TabIs Tryz.prog w "internal/strconv.uint64pow10" .u64 Lib.pow10Tab) :
    Calls Tryz.prog 114 #[.int .i64 n] w fun e w' => e = .returned (.string ⟨(Lib.itoa n).toArray⟩) ∧ ∃ k os, w' = grow (w.drewN k) os := Any.internal_strconv_Itoa Tryz.laysM243 n h0 h1 w htab
def Tryz.lays243_ren : Go.Shelf.Ren := ⟨fun | 243 => 114 | 246 => 109 | 283 => 123 | 284 => 124 | 285 => 125 | 286 => 126 | 129 => 132 | 317 => 131 | 318 => 133 | 319 => 134 | 320 => 135 | 337 => 139 | 338 => 140 | n => n, fun | 3 => 3 | 9 => 9 | 2 => 2 | 4 => 4 | 171 => 130 | 0 => 0 | 53 => 22 | 37 => 39 | 5 => 5 | 173 => 133 | 212 => 139 | 51 => 140 | 20 => 20 | 213 => 141 | 46 => 92 | 232 => 147 | 233 => 148 | n => n, fun | 17 => 4 | 18 => 6 | 19 => 7 | n => n⟩
theorem Tryz.lays243 : Go.Proofs.Lays.n243 Tryz.prog Tryz.lays243_ren := {
  mixed := by kernel_rfl
  f129 := Tryz.func132.trans (congrArg some (by kernel_rfl))
  f243 := Tryz.func114.trans (congrArg some (by kernel_rfl))
  f246 := Tryz.func109.trans (congrArg some (by kernel_rfl))
  f283 := Tryz.func123.trans (congrArg some (by kernel_rfl))
  f284 := Tryz.func124.trans (congrArg some (by kernel_rfl))
  f285 := Tryz.func125.trans (congrArg some (by kernel_rfl))
  f286 := Tryz.func126.trans (congrArg some (by kernel_rfl))
  f317 := Tryz.func131.trans (congrArg some (by kernel_rfl))
  f318 := Tryz.func133.trans (congrArg some (by kernel_rfl))
  f319 := Tryz.func134.trans (congrArg some (by kernel_rfl))
  f320 := Tryz.func135.trans (congrArg some (by kernel_rfl))
  f337 := Tryz.func139.trans (congrArg some (by kernel_rfl))
  f338 := Tryz.func140.trans (congrArg some (by kernel_rfl))
  t0 := Tryz.underlying0
  a0 := Tryz.isAgg0
  z0 := Tryz.sizeOf0
  v0 := Tryz.zeroValue0
  t2 := Tryz.underlying2
  a2 := Tryz.isAgg2
  z2 := Tryz.sizeOf2
  v2 := Tryz.zeroValue2
  t3 := Tryz.underlying3
  a3 := Tryz.isAgg3
  z3 := Tryz.sizeOf3
  v3 := Tryz.zeroValue3
  t4 := Tryz.underlying4
  a4 := Tryz.isAgg4
  z4 := Tryz.sizeOf4
  v4 := Tryz.zeroValue4
  t5 := Tryz.underlying5
  a5 := Tryz.isAgg5
  z5 := Tryz.sizeOf5
  v5 := Tryz.zeroValue5
  t9 := Tryz.underlying9
  a9 := Tryz.isAgg9
  z9 := Tryz.sizeOf9
  v9 := Tryz.zeroValue9
  t20 := Tryz.underlying20
  a20 := Tryz.isAgg20
  z20 := Tryz.sizeOf20
  v20 := Tryz.zeroValue20
  t37 := Tryz.underlying39
  a37 := Tryz.isAgg39
  z37 := Tryz.sizeOf39
  v37 := Tryz.zeroValue39
  t46 := Tryz.underlying92
  a46 := Tryz.isAgg92
  z46 := Tryz.sizeOf92
  v46 := Tryz.zeroValue92
  t51 := Tryz.underlying140
  a51 := Tryz.isAgg140
  z51 := Tryz.sizeOf140
  v51 := Tryz.zeroValue140
  t53 := Tryz.underlying22
  a53 := Tryz.isAgg22
  z53 := Tryz.sizeOf22
  v53 := Tryz.zeroValue22
  t171 := Tryz.underlying130
  a171 := Tryz.isAgg130
  z171 := Tryz.sizeOf130
  v171 := Tryz.zeroValue130
  t173 := Tryz.underlying133
  a173 := Tryz.isAgg133
  z173 := Tryz.sizeOf133
  v173 := Tryz.zeroValue133
  t212 := Tryz.underlying139
  a212 := Tryz.isAgg139
  z212 := Tryz.sizeOf139
  v212 := Tryz.zeroValue139
  t213 := Tryz.underlying141
  a213 := Tryz.isAgg141
  z213 := Tryz.sizeOf141
  t232 := Tryz.underlying147
  a232 := Tryz.isAgg147
  z232 := Tryz.sizeOf147
  v232 := Tryz.zeroValue147
  t233 := Tryz.underlying148
  a233 := Tryz.isAgg148
  z233 := Tryz.sizeOf148
  v233 := Tryz.zeroValue148
  g17 := by kernel_rfl
  g18 := by kernel_rfl
  g19 := by kernel_rfl }
open Go.RowKit Go.Sort Go.Lib in
/-- THE ROAD WITHOUT THE TABLE: 0 <= i < 100. (LAID: no walk: one application.) -/
theorem Tryz.internal_strconv_Itoa_small (i : Nat) (hi : i < 100) (w : World) :
    Calls Tryz.prog 114 #[.int .i64 i] w fun e w' => e = .returned (.string ⟨(Lib.decDigits i).toArray⟩) ∧ w' = w := Any.internal_strconv_Itoa_small Tryz.lays243 i hi w
def Tryz.laysM171_ren : Go.Shelf.Ren := ⟨fun | 171 => 95 | 243 => 114 | 246 => 109 | 283 => 123 | 284 => 124 | 285 => 125 | 286 => 126 | 129 => 132 | 317 => 131 | 318 => 133 | 319 => 134 | 320 => 135 | 337 => 139 | 338 => 140 | n => n, fun | 3 => 3 | 9 => 9 | 2 => 2 | 4 => 4 | 171 => 130 | 0 => 0 | 53 => 22 | 37 => 39 | 5 => 5 | 173 => 133 | 212 => 139 | 51 => 140 | 20 => 20 | 213 => 141 | 46 => 92 | 232 => 147 | 233 => 148 | n => n, fun | 17 => 4 | 18 => 6 | 19 => 7 | n => n⟩
theorem Tryz.laysM171 : Go.Proofs.LaysM.n171 Tryz.prog Tryz.laysM171_ren := {
  mixed := by kernel_rfl
  f129 := Tryz.func132.trans (congrArg some (by kernel_rfl))
  f171 := Tryz.func95.trans (congrArg some (by kernel_rfl))
  f243 := Tryz.func114.trans (congrArg some (by kernel_rfl))
  f246 := Tryz.func109.trans (congrArg some (by kernel_rfl))
  f283 := Tryz.func123.trans (congrArg some (by kernel_rfl))
  f284 := Tryz.func124.trans (congrArg some (by kernel_rfl))
  f285 := Tryz.func125.trans (congrArg some (by kernel_rfl))
  f286 := Tryz.func126.trans (congrArg some (by kernel_rfl))
  f317 := Tryz.func131.trans (congrArg some (by kernel_rfl))
  f318 := Tryz.func133.trans (congrArg some (by kernel_rfl))
  f319 := Tryz.func134.trans (congrArg some (by kernel_rfl))
  f320 := Tryz.func135.trans (congrArg some (by kernel_rfl))
  f337 := Tryz.func139.trans (congrArg some (by kernel_rfl))
  f338 := Tryz.func140.trans (congrArg some (by kernel_rfl))
  t0 := Tryz.underlying0
  a0 := Tryz.isAgg0
  z0 := Tryz.sizeOf0
  v0 := Tryz.zeroValue0
  t2 := Tryz.underlying2
  a2 := Tryz.isAgg2
  z2 := Tryz.sizeOf2
  v2 := Tryz.zeroValue2
  t3 := Tryz.underlying3
  a3 := Tryz.isAgg3
  z3 := Tryz.sizeOf3
  v3 := Tryz.zeroValue3
  t4 := Tryz.underlying4
  a4 := Tryz.isAgg4
  z4 := Tryz.sizeOf4
  v4 := Tryz.zeroValue4
  t5 := Tryz.underlying5
  a5 := Tryz.isAgg5
  z5 := Tryz.sizeOf5
  v5 := Tryz.zeroValue5
  t9 := Tryz.underlying9
  a9 := Tryz.isAgg9
  z9 := Tryz.sizeOf9
  v9 := Tryz.zeroValue9
  t20 := Tryz.underlying20
  a20 := Tryz.isAgg20
  z20 := Tryz.sizeOf20
  v20 := Tryz.zeroValue20
  t37 := Tryz.underlying39
  a37 := Tryz.isAgg39
  z37 := Tryz.sizeOf39
  v37 := Tryz.zeroValue39
  t46 := Tryz.underlying92
  a46 := Tryz.isAgg92
  z46 := Tryz.sizeOf92
  v46 := Tryz.zeroValue92
  t51 := Tryz.underlying140
  a51 := Tryz.isAgg140
  z51 := Tryz.sizeOf140
  v51 := Tryz.zeroValue140
  t53 := Tryz.underlying22
  a53 := Tryz.isAgg22
  z53 := Tryz.sizeOf22
  v53 := Tryz.zeroValue22
  t171 := Tryz.underlying130
  a171 := Tryz.isAgg130
  z171 := Tryz.sizeOf130
  v171 := Tryz.zeroValue130
  t173 := Tryz.underlying133
  a173 := Tryz.isAgg133
  z173 := Tryz.sizeOf133
  v173 := Tryz.zeroValue133
  t212 := Tryz.underlying139
  a212 := Tryz.isAgg139
  z212 := Tryz.sizeOf139
  v212 := Tryz.zeroValue139
  t213 := Tryz.underlying141
  a213 := Tryz.isAgg141
  z213 := Tryz.sizeOf141
  t232 := Tryz.underlying147
  a232 := Tryz.isAgg147
  z232 := Tryz.sizeOf147
  v232 := Tryz.zeroValue147
  t233 := Tryz.underlying148
  a233 := Tryz.isAgg148
  z233 := Tryz.sizeOf148
  v233 := Tryz.zeroValue148
  g17 := by kernel_rfl
  g18 := by kernel_rfl
  g19 := by kernel_rfl
  i0 := by kernel_rfl
  i2 := by kernel_rfl
  i3 := by kernel_rfl
  i4 := by kernel_rfl
  i5 := by kernel_rfl
  i9 := by kernel_rfl
  i20 := by kernel_rfl
  i37 := by kernel_rfl
  i46 := by kernel_rfl
  i51 := by kernel_rfl
  i53 := by kernel_rfl
  i171 := by kernel_rfl
  i173 := by kernel_rfl
  i212 := by kernel_rfl
  i232 := by kernel_rfl
  i233 := by kernel_rfl
  m17 := by kernel_rfl
  m18 := by kernel_rfl
  m19 := by kernel_rfl }
open Go.RowKit Go.Sort Go.Lib in
/-- strconv.Itoa: "Itoa is equivalent to FormatInt(int64(i), 10).": i's DECIMAL NUMERAL ('Lib.itoa': a '-' where i is negative, then the digits), FOR EVERY int. The world behind the call: the world before it, new blocks behind the heap (the library's 'var a [24]byte'), draws. (LAID: no walk: one application.) -/
theorem Tryz.strconv_Itoa (n : Int) (h0 : -9223372036854775808 ≤ n) (h1 : n ≤ 9223372036854775807) (w : World) (htab : Lib.TabIs Tryz.prog w "internal/strconv.uint64pow10" .u64 Lib.pow10Tab) :
    Calls Tryz.prog 95 #[.int .i64 n] w fun e w' => e = .returned (.string ⟨(Lib.itoa n).toArray⟩) ∧ ∃ k os, w' = grow (w.drewN k) os := Any.strconv_Itoa Tryz.laysM171 n h0 h1 w htab
def Tryz.lays171_ren : Go.Shelf.Ren := ⟨fun | 171 => 95 | 243 => 114 | 246 => 109 | 283 => 123 | 284 => 124 | 285 => 125 | 286 => 126 | 129 => 132 | 317 => 131 | 318 => 133 | 319 => 134 | 320 => 135 | 337 => 139 | 338 => 140 | n => n, fun | 3 => 3 | 9 => 9 | 2 => 2 | 4 => 4 | 171 => 130 | 0 => 0 | 53 => 22 | 37 => 39 | 5 => 5 | 173 => 133 | 212 => 139 | 51 => 140 | 20 => 20 | 213 => 141 | 46 => 92 | 232 => 147 | 233 => 148 | n => n, fun | 17 => 4 | 18 => 6 | 19 => 7 | n => n⟩
theorem Tryz.lays171 : Go.Proofs.Lays.n171 Tryz.prog Tryz.lays171_ren := {
  mixed := by kernel_rfl
  f129 := Tryz.func132.trans (congrArg some (by kernel_rfl))
  f171 := Tryz.func95.trans (congrArg some (by kernel_rfl))
  f243 := Tryz.func114.trans (congrArg some (by kernel_rfl))
  f246 := Tryz.func109.trans (congrArg some (by kernel_rfl))
  f283 := Tryz.func123.trans (congrArg some (by kernel_rfl))
  f284 := Tryz.func124.trans (congrArg some (by kernel_rfl))
  f285 := Tryz.func125.trans (congrArg some (by kernel_rfl))
  f286 := Tryz.func126.trans (congrArg some (by kernel_rfl))
  f317 := Tryz.func131.trans (congrArg some (by kernel_rfl))
  f318 := Tryz.func133.trans (congrArg some (by kernel_rfl))
  f319 := Tryz.func134.trans (congrArg some (by kernel_rfl))
  f320 := Tryz.func135.trans (congrArg some (by kernel_rfl))
  f337 := Tryz.func139.trans (congrArg some (by kernel_rfl))
  f338 := Tryz.func140.trans (congrArg some (by kernel_rfl))
  t0 := Tryz.underlying0
  a0 := Tryz.isAgg0
  z0 := Tryz.sizeOf0
  v0 := Tryz.zeroValue0
  t2 := Tryz.underlying2
  a2 := Tryz.isAgg2
  z2 := Tryz.sizeOf2
  v2 := Tryz.zeroValue2
  t3 := Tryz.underlying3
  a3 := Tryz.isAgg3
  z3 := Tryz.sizeOf3
  v3 := Tryz.zeroValue3
  t4 := Tryz.underlying4
  a4 := Tryz.isAgg4
  z4 := Tryz.sizeOf4
  v4 := Tryz.zeroValue4
  t5 := Tryz.underlying5
  a5 := Tryz.isAgg5
  z5 := Tryz.sizeOf5
  v5 := Tryz.zeroValue5
  t9 := Tryz.underlying9
  a9 := Tryz.isAgg9
  z9 := Tryz.sizeOf9
  v9 := Tryz.zeroValue9
  t20 := Tryz.underlying20
  a20 := Tryz.isAgg20
  z20 := Tryz.sizeOf20
  v20 := Tryz.zeroValue20
  t37 := Tryz.underlying39
  a37 := Tryz.isAgg39
  z37 := Tryz.sizeOf39
  v37 := Tryz.zeroValue39
  t46 := Tryz.underlying92
  a46 := Tryz.isAgg92
  z46 := Tryz.sizeOf92
  v46 := Tryz.zeroValue92
  t51 := Tryz.underlying140
  a51 := Tryz.isAgg140
  z51 := Tryz.sizeOf140
  v51 := Tryz.zeroValue140
  t53 := Tryz.underlying22
  a53 := Tryz.isAgg22
  z53 := Tryz.sizeOf22
  v53 := Tryz.zeroValue22
  t171 := Tryz.underlying130
  a171 := Tryz.isAgg130
  z171 := Tryz.sizeOf130
  v171 := Tryz.zeroValue130
  t173 := Tryz.underlying133
  a173 := Tryz.isAgg133
  z173 := Tryz.sizeOf133
  v173 := Tryz.zeroValue133
  t212 := Tryz.underlying139
  a212 := Tryz.isAgg139
  z212 := Tryz.sizeOf139
  v212 := Tryz.zeroValue139
  t213 := Tryz.underlying141
  a213 := Tryz.isAgg141
  z213 := Tryz.sizeOf141
  t232 := Tryz.underlying147
  a232 := Tryz.isAgg147
  z232 := Tryz.sizeOf147
  v232 := Tryz.zeroValue147
  t233 := Tryz.underlying148
  a233 := Tryz.isAgg148
  z233 := Tryz.sizeOf148
  v233 := Tryz.zeroValue148
  g17 := by kernel_rfl
  g18 := by kernel_rfl
  g19 := by kernel_rfl }
open Go.RowKit Go.Sort Go.Lib in
/-- THE ROAD WITHOUT THE TABLE: 0 <= i < 100: NO PREMISE ON THE WORLD, AND THE WORLD IS AS IT WAS: a row that keeps its argument in that range need list no table ('laid = []'). (LAID: no walk: one application.) -/
theorem Tryz.strconv_Itoa_small (i : Nat) (hi : i < 100) (w : World) :
    Calls Tryz.prog 95 #[.int .i64 i] w fun e w' => e = .returned (.string ⟨(Lib.decDigits i).toArray⟩) ∧ w' = w := Any.strconv_Itoa_small Tryz.lays171 i hi w
def Tryz.laysM173_ren : Go.Shelf.Ren := ⟨fun | 173 => 87 | 246 => 109 | 283 => 123 | 284 => 124 | 285 => 125 | 286 => 126 | 129 => 132 | 317 => 131 | 318 => 133 | 319 => 134 | 320 => 135 | 337 => 139 | 338 => 140 | n => n, fun | 2 => 2 | 3 => 3 | 9 => 9 | 4 => 4 | 171 => 130 | 0 => 0 | 53 => 22 | 37 => 39 | 5 => 5 | 173 => 133 | 212 => 139 | 51 => 140 | 20 => 20 | 213 => 141 | 46 => 92 | 232 => 147 | 233 => 148 | n => n, fun | 17 => 4 | 18 => 6 | 19 => 7 | n => n⟩
theorem Tryz.laysM173 : Go.Proofs.LaysM.n173 Tryz.prog Tryz.laysM173_ren := {
  mixed := by kernel_rfl
  f129 := Tryz.func132.trans (congrArg some (by kernel_rfl))
  f173 := Tryz.func87.trans (congrArg some (by kernel_rfl))
  f246 := Tryz.func109.trans (congrArg some (by kernel_rfl))
  f283 := Tryz.func123.trans (congrArg some (by kernel_rfl))
  f284 := Tryz.func124.trans (congrArg some (by kernel_rfl))
  f285 := Tryz.func125.trans (congrArg some (by kernel_rfl))
  f286 := Tryz.func126.trans (congrArg some (by kernel_rfl))
  f317 := Tryz.func131.trans (congrArg some (by kernel_rfl))
  f318 := Tryz.func133.trans (congrArg some (by kernel_rfl))
  f319 := Tryz.func134.trans (congrArg some (by kernel_rfl))
  f320 := Tryz.func135.trans (congrArg some (by kernel_rfl))
  f337 := Tryz.func139.trans (congrArg some (by kernel_rfl))
  f338 := Tryz.func140.trans (congrArg some (by kernel_rfl))
  t0 := Tryz.underlying0
  a0 := Tryz.isAgg0
  z0 := Tryz.sizeOf0
  v0 := Tryz.zeroValue0
  t2 := Tryz.underlying2
  a2 := Tryz.isAgg2
  z2 := Tryz.sizeOf2
  v2 := Tryz.zeroValue2
  t3 := Tryz.underlying3
  a3 := Tryz.isAgg3
  z3 := Tryz.sizeOf3
  v3 := Tryz.zeroValue3
  t4 := Tryz.underlying4
  a4 := Tryz.isAgg4
  z4 := Tryz.sizeOf4
  v4 := Tryz.zeroValue4
  t5 := Tryz.underlying5
  a5 := Tryz.isAgg5
  z5 := Tryz.sizeOf5
  v5 := Tryz.zeroValue5
  t9 := Tryz.underlying9
  a9 := Tryz.isAgg9
  z9 := Tryz.sizeOf9
  v9 := Tryz.zeroValue9
  t20 := Tryz.underlying20
  a20 := Tryz.isAgg20
  z20 := Tryz.sizeOf20
  v20 := Tryz.zeroValue20
  t37 := Tryz.underlying39
  a37 := Tryz.isAgg39
  z37 := Tryz.sizeOf39
  v37 := Tryz.zeroValue39
  t46 := Tryz.underlying92
  a46 := Tryz.isAgg92
  z46 := Tryz.sizeOf92
  v46 := Tryz.zeroValue92
  t51 := Tryz.underlying140
  a51 := Tryz.isAgg140
  z51 := Tryz.sizeOf140
  v51 := Tryz.zeroValue140
  t53 := Tryz.underlying22
  a53 := Tryz.isAgg22
  z53 := Tryz.sizeOf22
  v53 := Tryz.zeroValue22
  t171 := Tryz.underlying130
  a171 := Tryz.isAgg130
  z171 := Tryz.sizeOf130
  v171 := Tryz.zeroValue130
  t173 := Tryz.underlying133
  a173 := Tryz.isAgg133
  z173 := Tryz.sizeOf133
  v173 := Tryz.zeroValue133
  t212 := Tryz.underlying139
  a212 := Tryz.isAgg139
  z212 := Tryz.sizeOf139
  v212 := Tryz.zeroValue139
  t213 := Tryz.underlying141
  a213 := Tryz.isAgg141
  z213 := Tryz.sizeOf141
  t232 := Tryz.underlying147
  a232 := Tryz.isAgg147
  z232 := Tryz.sizeOf147
  v232 := Tryz.zeroValue147
  t233 := Tryz.underlying148
  a233 := Tryz.isAgg148
  z233 := Tryz.sizeOf148
  v233 := Tryz.zeroValue148
  g17 := by kernel_rfl
  g18 := by kernel_rfl
  g19 := by kernel_rfl
  i0 := by kernel_rfl
  i2 := by kernel_rfl
  i3 := by kernel_rfl
  i4 := by kernel_rfl
  i5 := by kernel_rfl
  i9 := by kernel_rfl
  i20 := by kernel_rfl
  i37 := by kernel_rfl
  i46 := by kernel_rfl
  i51 := by kernel_rfl
  i53 := by kernel_rfl
  i171 := by kernel_rfl
  i173 := by kernel_rfl
  i212 := by kernel_rfl
  i232 := by kernel_rfl
  i233 := by kernel_rfl
  m17 := by kernel_rfl
  m18 := by kernel_rfl
  m19 := by kernel_rfl }
open Go.RowKit Go.Sort Go.Lib in
/-- strconv.FormatInt: "FormatInt returns the string representation of i in the given base": AT BASE 10: i's decimal numeral, for every int64. (LAID: no walk: one application.) -/
theorem Tryz.strconv_FormatInt_10 (n : Int) (h0 : -9223372036854775808 ≤ n) (h1 : n ≤ 9223372036854775807) (w : World) (htab : Lib.TabIs Tryz.prog w "internal/strconv.uint64pow10" .u64 Lib.pow10Tab) :
    Calls Tryz.prog 87 #[.int .i64 n, .int .i64 10] w fun e w' => e = .returned (.string ⟨(Lib.itoa n).toArray⟩) ∧ ∃ k os, w' = grow (w.drewN k) os := Any.strconv_FormatInt_10 Tryz.laysM173 n h0 h1 w htab
def Tryz.lays173_ren : Go.Shelf.Ren := ⟨fun | 173 => 87 | 246 => 109 | 283 => 123 | 284 => 124 | 285 => 125 | 286 => 126 | 129 => 132 | 317 => 131 | 318 => 133 | 319 => 134 | 320 => 135 | 337 => 139 | 338 => 140 | n => n, fun | 2 => 2 | 3 => 3 | 9 => 9 | 4 => 4 | 171 => 130 | 0 => 0 | 53 => 22 | 37 => 39 | 5 => 5 | 173 => 133 | 212 => 139 | 51 => 140 | 20 => 20 | 213 => 141 | 46 => 92 | 232 => 147 | 233 => 148 | n => n, fun | 17 => 4 | 18 => 6 | 19 => 7 | n => n⟩
theorem Tryz.lays173 : Go.Proofs.Lays.n173 Tryz.prog Tryz.lays173_ren := {
  mixed := by kernel_rfl
  f129 := Tryz.func132.trans (congrArg some (by kernel_rfl))
  f173 := Tryz.func87.trans (congrArg some (by kernel_rfl))
  f246 := Tryz.func109.trans (congrArg some (by kernel_rfl))
  f283 := Tryz.func123.trans (congrArg some (by kernel_rfl))
  f284 := Tryz.func124.trans (congrArg some (by kernel_rfl))
  f285 := Tryz.func125.trans (congrArg some (by kernel_rfl))
  f286 := Tryz.func126.trans (congrArg some (by kernel_rfl))
  f317 := Tryz.func131.trans (congrArg some (by kernel_rfl))
  f318 := Tryz.func133.trans (congrArg some (by kernel_rfl))
  f319 := Tryz.func134.trans (congrArg some (by kernel_rfl))
  f320 := Tryz.func135.trans (congrArg some (by kernel_rfl))
  f337 := Tryz.func139.trans (congrArg some (by kernel_rfl))
  f338 := Tryz.func140.trans (congrArg some (by kernel_rfl))
  t0 := Tryz.underlying0
  a0 := Tryz.isAgg0
  z0 := Tryz.sizeOf0
  v0 := Tryz.zeroValue0
  t2 := Tryz.underlying2
  a2 := Tryz.isAgg2
  z2 := Tryz.sizeOf2
  v2 := Tryz.zeroValue2
  t3 := Tryz.underlying3
  a3 := Tryz.isAgg3
  z3 := Tryz.sizeOf3
  v3 := Tryz.zeroValue3
  t4 := Tryz.underlying4
  a4 := Tryz.isAgg4
  z4 := Tryz.sizeOf4
  v4 := Tryz.zeroValue4
  t5 := Tryz.underlying5
  a5 := Tryz.isAgg5
  z5 := Tryz.sizeOf5
  v5 := Tryz.zeroValue5
  t9 := Tryz.underlying9
  a9 := Tryz.isAgg9
  z9 := Tryz.sizeOf9
  v9 := Tryz.zeroValue9
  t20 := Tryz.underlying20
  a20 := Tryz.isAgg20
  z20 := Tryz.sizeOf20
  v20 := Tryz.zeroValue20
  t37 := Tryz.underlying39
  a37 := Tryz.isAgg39
  z37 := Tryz.sizeOf39
  v37 := Tryz.zeroValue39
  t46 := Tryz.underlying92
  a46 := Tryz.isAgg92
  z46 := Tryz.sizeOf92
  v46 := Tryz.zeroValue92
  t51 := Tryz.underlying140
  a51 := Tryz.isAgg140
  z51 := Tryz.sizeOf140
  v51 := Tryz.zeroValue140
  t53 := Tryz.underlying22
  a53 := Tryz.isAgg22
  z53 := Tryz.sizeOf22
  v53 := Tryz.zeroValue22
  t171 := Tryz.underlying130
  a171 := Tryz.isAgg130
  z171 := Tryz.sizeOf130
  v171 := Tryz.zeroValue130
  t173 := Tryz.underlying133
  a173 := Tryz.isAgg133
  z173 := Tryz.sizeOf133
  v173 := Tryz.zeroValue133
  t212 := Tryz.underlying139
  a212 := Tryz.isAgg139
  z212 := Tryz.sizeOf139
  v212 := Tryz.zeroValue139
  t213 := Tryz.underlying141
  a213 := Tryz.isAgg141
  z213 := Tryz.sizeOf141
  t232 := Tryz.underlying147
  a232 := Tryz.isAgg147
  z232 := Tryz.sizeOf147
  v232 := Tryz.zeroValue147
  t233 := Tryz.underlying148
  a233 := Tryz.isAgg148
  z233 := Tryz.sizeOf148
  v233 := Tryz.zeroValue148
  g17 := by kernel_rfl
  g18 := by kernel_rfl
  g19 := by kernel_rfl }
open Go.RowKit Go.Sort Go.Lib in
/-- THE ROAD WITHOUT THE TABLE: 0 <= i < 100. (LAID: no walk: one application.) -/
theorem Tryz.strconv_FormatInt_10_small (i : Nat) (hi : i < 100) (w : World) :
    Calls Tryz.prog 87 #[.int .i64 i, .int .i64 10] w fun e w' => e = .returned (.string ⟨(Lib.decDigits i).toArray⟩) ∧ w' = w := Any.strconv_FormatInt_10_small Tryz.lays173 i hi w
def Tryz.lays222_ren : Go.Shelf.Ren := ⟨fun | 222 => 136 | n => n, fun | 9 => 9 | 5 => 5 | 3 => 3 | 4 => 4 | n => n, fun | n => n⟩
theorem Tryz.lays222 : Go.Proofs.Lays.n222 Tryz.prog Tryz.lays222_ren := {
  mixed := by kernel_rfl
  f222 := Tryz.func136.trans (congrArg some (by kernel_rfl))
  t3 := Tryz.underlying3
  a3 := Tryz.isAgg3
  z3 := Tryz.sizeOf3
  v3 := Tryz.zeroValue3
  t4 := Tryz.underlying4
  a4 := Tryz.isAgg4
  z4 := Tryz.sizeOf4
  v4 := Tryz.zeroValue4
  t5 := Tryz.underlying5
  a5 := Tryz.isAgg5
  z5 := Tryz.sizeOf5
  v5 := Tryz.zeroValue5
  t9 := Tryz.underlying9
  a9 := Tryz.isAgg9
  z9 := Tryz.sizeOf9
  v9 := Tryz.zeroValue9 }
open Go.RowKit Go.Lib in
/-- internal/bytealg.LastIndexByteString: 'for i := len(s) - 1; i >= 0; i-- { if s[i] == c { return i } }; return -1'. (LAID: no walk: one application.) -/
theorem Tryz.bytealg_LastIndexByteString_nm (s : ByteArray) (c : Int) (hs : s.size < 4611686018427387904) (w : World) :
    Calls Tryz.prog 136 #[.string s, .int .u8 c] w fun e w' => e = .returned (.int .i64 (Lib.lastIndexByte s c)) ∧ w' = w := Any.bytealg_LastIndexByteString_nm Tryz.lays222 s c hs w
def Tryz.lays148_ren : Go.Shelf.Ren := ⟨fun | 148 => 127 | 222 => 136 | 223 => 137 | 269 => 141 | n => n, fun | 9 => 9 | 3 => 3 | 4 => 4 | 5 => 5 | 146 => 145 | 51 => 140 | 46 => 92 | n => n, fun | n => n⟩
theorem Tryz.lays148 : Go.Proofs.Lays.n148 Tryz.prog Tryz.lays148_ren := {
  mixed := by kernel_rfl
  f148 := Tryz.func127.trans (congrArg some (by kernel_rfl))
  f222 := Tryz.func136.trans (congrArg some (by kernel_rfl))
  f223 := Tryz.func137.trans (congrArg some (by kernel_rfl))
  f269 := Tryz.func141.trans (congrArg some (by kernel_rfl))
  t3 := Tryz.underlying3
  a3 := Tryz.isAgg3
  z3 := Tryz.sizeOf3
  v3 := Tryz.zeroValue3
  t4 := Tryz.underlying4
  a4 := Tryz.isAgg4
  z4 := Tryz.sizeOf4
  v4 := Tryz.zeroValue4
  t5 := Tryz.underlying5
  a5 := Tryz.isAgg5
  z5 := Tryz.sizeOf5
  v5 := Tryz.zeroValue5
  t9 := Tryz.underlying9
  a9 := Tryz.isAgg9
  z9 := Tryz.sizeOf9
  v9 := Tryz.zeroValue9
  t46 := Tryz.underlying92
  a46 := Tryz.isAgg92
  z46 := Tryz.sizeOf92
  v46 := Tryz.zeroValue92
  t51 := Tryz.underlying140
  a51 := Tryz.isAgg140
  z51 := Tryz.sizeOf140
  v51 := Tryz.zeroValue140
  t146 := Tryz.underlying145
  a146 := Tryz.isAgg145
  z146 := Tryz.sizeOf145
  v146 := Tryz.zeroValue145 }
open Go.RowKit Go.Lib in
/-- strings.LastIndex AT A substr OF ONE BYTE (as in 'strings.LastIndex(path, "/")'): the last place of that byte, or -1. (LAID: no walk: one application.) -/
theorem Tryz.strings_LastIndex_one (s sub : ByteArray) (h1 : sub.size = 1) (hs : s.size < 4611686018427387904) (w : World) :
    Calls Tryz.prog 127 #[.string s, .string sub] w fun e w' => e = .returned (.int .i64 (Lib.lastIndexByte s ((sub[0]'(by omega)).toNat : Int))) ∧ w' = w := Any.strings_LastIndex_one Tryz.lays148 s sub h1 hs w
open Go.RowKit Go.Lib in
/-- .. AT THE EMPTY substr: len(s). (LAID: no walk: one application.) -/
theorem Tryz.strings_LastIndex_empty (s sub : ByteArray) (h0 : sub.size = 0) (w : World) :
    Calls Tryz.prog 127 #[.string s, .string sub] w fun e w' => e = .returned (.int .i64 s.size) ∧ w' = w := Any.strings_LastIndex_empty Tryz.lays148 s sub h0 w
open Go.RowKit Go.Lib in
/-- .. AT A substr LONGER THAN s (and of two bytes or more): -1. (LAID: no walk: one application.) -/
theorem Tryz.strings_LastIndex_longer (s sub : ByteArray) (h2 : 2 ≤ sub.size) (hl : s.size < sub.size) (w : World) :
    Calls Tryz.prog 127 #[.string s, .string sub] w fun e w' => e = .returned (.int .i64 (-1)) ∧ w' = w := Any.strings_LastIndex_longer Tryz.lays148 s sub h2 hl w
open Go.RowKit Go.Lib in
/-- .. AT A substr AS LONG AS s (and of two bytes or more): 0 where the two are one, else -1. (LAID: no walk: one application.) -/
theorem Tryz.strings_LastIndex_whole (s sub : ByteArray) (h2 : 2 ≤ sub.size) (hl : sub.size = s.size) (w : World) :
    Calls Tryz.prog 127 #[.string s, .string sub] w fun e w' => e = .returned (.int .i64 (if sub = s then 0 else -1)) ∧ w' = w := Any.strings_LastIndex_whole Tryz.lays148 s sub h2 hl w
def Tryz.lays269_ren : Go.Shelf.Ren := ⟨fun | 269 => 141 | n => n, fun | 9 => 9 | 51 => 140 | 3 => 3 | 4 => 4 | 5 => 5 | 46 => 92 | n => n, fun | n => n⟩
theorem Tryz.lays269 : Go.Proofs.Lays.n269 Tryz.prog Tryz.lays269_ren := {
  mixed := by kernel_rfl
  f269 := Tryz.func141.trans (congrArg some (by kernel_rfl))
  t3 := Tryz.underlying3
  a3 := Tryz.isAgg3
  z3 := Tryz.sizeOf3
  v3 := Tryz.zeroValue3
  t4 := Tryz.underlying4
  a4 := Tryz.isAgg4
  z4 := Tryz.sizeOf4
  v4 := Tryz.zeroValue4
  t5 := Tryz.underlying5
  a5 := Tryz.isAgg5
  z5 := Tryz.sizeOf5
  v5 := Tryz.zeroValue5
  t9 := Tryz.underlying9
  a9 := Tryz.isAgg9
  z9 := Tryz.sizeOf9
  v9 := Tryz.zeroValue9
  t46 := Tryz.underlying92
  a46 := Tryz.isAgg92
  z46 := Tryz.sizeOf92
  v46 := Tryz.zeroValue92
  t51 := Tryz.underlying140
  a51 := Tryz.isAgg140
  z51 := Tryz.sizeOf140
  v51 := Tryz.zeroValue140 }
open Go.RowKit Go.Lib in
/-- internal/bytealg.hashStrRev: the hash of sep REVERSED, and primeRK ^ len(sep). (LAID: no walk: one application.) -/
theorem Tryz.bytealg_hashStrRev (sep : ByteArray) (hs : sep.size < 4611686018427387904) (w : World) :
    Calls Tryz.prog 141 #[.string sep] w fun e w' => e = .returned (.tuple #[.int .u32 (RK.H sep.data.toList.reverse % 4294967296), .int .u32 (16777619 ^ sep.size % 4294967296)]) ∧ w' = w := Any.bytealg_hashStrRev Tryz.lays269 sep hs w
def Tryz.lays223_ren : Go.Shelf.Ren := ⟨fun | 223 => 137 | 269 => 141 | n => n, fun | 9 => 9 | 3 => 3 | 146 => 145 | 51 => 140 | 4 => 4 | 5 => 5 | 46 => 92 | n => n, fun | n => n⟩
theorem Tryz.lays223 : Go.Proofs.Lays.n223 Tryz.prog Tryz.lays223_ren := {
  mixed := by kernel_rfl
  f223 := Tryz.func137.trans (congrArg some (by kernel_rfl))
  f269 := Tryz.func141.trans (congrArg some (by kernel_rfl))
  t3 := Tryz.underlying3
  a3 := Tryz.isAgg3
  z3 := Tryz.sizeOf3
  v3 := Tryz.zeroValue3
  t4 := Tryz.underlying4
  a4 := Tryz.isAgg4
  z4 := Tryz.sizeOf4
  v4 := Tryz.zeroValue4
  t5 := Tryz.underlying5
  a5 := Tryz.isAgg5
  z5 := Tryz.sizeOf5
  v5 := Tryz.zeroValue5
  t9 := Tryz.underlying9
  a9 := Tryz.isAgg9
  z9 := Tryz.sizeOf9
  v9 := Tryz.zeroValue9
  t46 := Tryz.underlying92
  a46 := Tryz.isAgg92
  z46 := Tryz.sizeOf92
  v46 := Tryz.zeroValue92
  t51 := Tryz.underlying140
  a51 := Tryz.isAgg140
  z51 := Tryz.sizeOf140
  v51 := Tryz.zeroValue140
  t146 := Tryz.underlying145
  a146 := Tryz.isAgg145
  z146 := Tryz.sizeOf145
  v146 := Tryz.zeroValue145 }
open Go.RowKit Go.Lib in
/-- internal/bytealg.LastIndexRabinKarp: "LastIndexRabinKarp uses the Rabin-Karp search algorithm to return the last index of the occurrence of sep in s, or -1 if not present." (LAID: no walk: one application.) -/
theorem Tryz.bytealg_LastIndexRabinKarp (s sep : ByteArray) (h1 : 1 ≤ sep.size) (h2 : sep.size ≤ s.size) (hs : s.size < 4611686018427387904) (w : World) :
    Calls Tryz.prog 137 #[.string s, .string sep] w fun e w' => e = .returned (.int .i64 (Lib.lastIndex s.data.toList sep.data.toList)) ∧ w' = w := Any.bytealg_LastIndexRabinKarp Tryz.lays223 s sep h1 h2 hs w
open Go.RowKit Go.Lib in
/-- strings.LastIndex WHERE THE HASH IS ASKED: 2 bytes or more, shorter than s. (LAID: no walk: one application.) -/
theorem Tryz.strings_LastIndex_hash (s sub : ByteArray) (h2 : 2 ≤ sub.size) (hl : sub.size < s.size) (hs : s.size < 4611686018427387904) (w : World) :
    Calls Tryz.prog 127 #[.string s, .string sub] w fun e w' => e = .returned (.int .i64 (Lib.lastIndex s.data.toList sub.data.toList)) ∧ w' = w := Any.strings_LastIndex_hash Tryz.lays148 s sub h2 hl hs w
open Go.RowKit Go.Lib in
/-- strings.LastIndex: "LastIndex returns the index of the last instance of substr in s, or -1 if substr is not present in s.": AT A substr OF WHATEVER LENGTH. (LAID: no walk: one application.) -/
theorem Tryz.strings_LastIndex (s sub : ByteArray) (hs : s.size < 4611686018427387904) (w : World) :
    Calls Tryz.prog 127 #[.string s, .string sub] w fun e w' => e = .returned (.int .i64 (Lib.lastIndex s.data.toList sub.data.toList)) ∧ w' = w := Any.strings_LastIndex Tryz.lays148 s sub hs w
def Tryz.lays206_ren : Go.Shelf.Ren := ⟨fun | 206 => 72 | n => n, fun | 9 => 9 | 4 => 4 | 3 => 3 | n => n, fun | n => n⟩
theorem Tryz.lays206 : Go.Proofs.Lays.n206 Tryz.prog Tryz.lays206_ren := {
  mixed := by kernel_rfl
  f206 := Tryz.func72.trans (congrArg some (by kernel_rfl))
  t3 := Tryz.underlying3
  a3 := Tryz.isAgg3
  z3 := Tryz.sizeOf3
  v3 := Tryz.zeroValue3
  t4 := Tryz.underlying4
  a4 := Tryz.isAgg4
  z4 := Tryz.sizeOf4
  v4 := Tryz.zeroValue4
  t9 := Tryz.underlying9
  a9 := Tryz.isAgg9
  z9 := Tryz.sizeOf9
  v9 := Tryz.zeroValue9 }
open Go.RowKit Go.Lib in
/-- internal/stringslite.HasPrefix (what strings.HasPrefix calls). (LAID: no walk: one application.) -/
theorem Tryz.stringslite_HasPrefix (s p : ByteArray) (w : World) :
    Calls Tryz.prog 72 #[.string s, .string p] w fun e w' => e = .returned (.bool (Lib.hasPrefix s.data.toList p.data.toList)) ∧ w' = w := Any.stringslite_HasPrefix Tryz.lays206 s p w
def Tryz.lays99_ren : Go.Shelf.Ren := ⟨fun | 99 => 51 | 206 => 72 | n => n, fun | 9 => 9 | 4 => 4 | 3 => 3 | n => n, fun | n => n⟩
theorem Tryz.lays99 : Go.Proofs.Lays.n99 Tryz.prog Tryz.lays99_ren := {
  mixed := by kernel_rfl
  f99 := Tryz.func51.trans (congrArg some (by kernel_rfl))
  f206 := Tryz.func72.trans (congrArg some (by kernel_rfl))
  t3 := Tryz.underlying3
  a3 := Tryz.isAgg3
  z3 := Tryz.sizeOf3
  v3 := Tryz.zeroValue3
  t4 := Tryz.underlying4
  a4 := Tryz.isAgg4
  z4 := Tryz.sizeOf4
  v4 := Tryz.zeroValue4
  t9 := Tryz.underlying9
  a9 := Tryz.isAgg9
  z9 := Tryz.sizeOf9
  v9 := Tryz.zeroValue9 }
open Go.RowKit Go.Lib in
/-- strings.HasPrefix: "HasPrefix reports whether the string s begins with prefix.": IT RETURNS 'Lib.hasPrefix s prefix'; the world is as it was. (LAID: no walk: one application.) -/
theorem Tryz.strings_HasPrefix (s p : ByteArray) (w : World) :
    Calls Tryz.prog 51 #[.string s, .string p] w fun e w' => e = .returned (.bool (Lib.hasPrefix s.data.toList p.data.toList)) ∧ w' = w := Any.strings_HasPrefix Tryz.lays99 s p w
def Tryz.laysValid_ren : Go.Shelf.Ren := ⟨fun | 196 => 82 | 259 => 99 | n => n, fun | 9 => 9 | 4 => 4 | 3 => 3 | 5 => 5 | 12 => 12 | 119 => 117 | 0 => 0 | 46 => 92 | 139 => 120 | 138 => 119 | 53 => 22 | n => n, fun | 3 => 1 | 4 => 2 | n => n⟩
theorem Tryz.laysValid : Go.Proofs.Lays.n196 Tryz.prog Tryz.laysValid_ren := {
  mixed := by kernel_rfl
  f196 := Tryz.func82.trans (congrArg some (by kernel_rfl))
  f259 := Tryz.func99.trans (congrArg some (by kernel_rfl))
  t0 := Tryz.underlying0
  a0 := Tryz.isAgg0
  z0 := Tryz.sizeOf0
  v0 := Tryz.zeroValue0
  t3 := Tryz.underlying3
  a3 := Tryz.isAgg3
  z3 := Tryz.sizeOf3
  v3 := Tryz.zeroValue3
  t4 := Tryz.underlying4
  a4 := Tryz.isAgg4
  z4 := Tryz.sizeOf4
  v4 := Tryz.zeroValue4
  t5 := Tryz.underlying5
  a5 := Tryz.isAgg5
  z5 := Tryz.sizeOf5
  v5 := Tryz.zeroValue5
  t9 := Tryz.underlying9
  a9 := Tryz.isAgg9
  z9 := Tryz.sizeOf9
  v9 := Tryz.zeroValue9
  t12 := Tryz.underlying12
  a12 := Tryz.isAgg12
  z12 := Tryz.sizeOf12
  v12 := Tryz.zeroValue12
  t46 := Tryz.underlying92
  a46 := Tryz.isAgg92
  z46 := Tryz.sizeOf92
  v46 := Tryz.zeroValue92
  t53 := Tryz.underlying22
  a53 := Tryz.isAgg22
  z53 := Tryz.sizeOf22
  v53 := Tryz.zeroValue22
  t119 := Tryz.underlying117
  a119 := Tryz.isAgg117
  z119 := Tryz.sizeOf117
  t138 := Tryz.underlying119
  a138 := Tryz.isAgg119
  z138 := Tryz.sizeOf119
  v138 := Tryz.zeroValue119
  t139 := Tryz.underlying120
  a139 := Tryz.isAgg120
  z139 := Tryz.sizeOf120
  v139 := Tryz.zeroValue120
  g3 := by kernel_rfl
  g4 := by kernel_rfl }
end Go.Proofs
