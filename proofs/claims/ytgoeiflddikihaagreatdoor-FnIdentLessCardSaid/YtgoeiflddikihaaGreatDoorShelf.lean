/-
  DERIVED: THE SHELF's CONTRACTS AT THIS DUMP, IN PLAIN WORDS (tools/lay-plain.mjs out of 'TryzShelf.lean', which tools/lay-shelf.mjs wrote): THE SAME DECLARATIONS UNDER THE SAME NAMES: 'import', 'namespace', 'open', 'def', 'theorem' AND NOTHING ELSE: no command of the shelf's: FOR A HAND-IN. Each laying: the table of numbers ('.._ren') and one theorem, a field a fact of the dump's own or the kernel's comparison; each contract: ONE APPLICATION.
-/
import Derived.Shelf.Small.Bits
import Derived.Shelf.Strconv.Itoa0
import Derived.Shelf.Strconv.Itoa1
import Derived.Shelf.LaysM
import Derived.Shelf.Strconv.Itoa2
import Derived.Shelf.Strconv.Itoa3
import Derived.Shelf.Strconv.Clone
import Derived.Shelf.Strconv.SyntaxError
import Derived.Shelf.LaysC
import Derived.Shelf.Strconv.ToError
import Derived.Shelf.Strconv.Lower
import Derived.Shelf.Strconv.ParseUint10
import Derived.Shelf.Strconv.ParseUint10Empty
import Derived.Shelf.Strconv.ParseUint10Any
import Derived.Shelf.Strconv.RangeError
import Derived.Shelf.Strconv.ToErrorRange
import Derived.Ground.MpProg
import Derived.Shelf.Pu.ParseUintPublic10
import Derived.Shelf.Pu.ErrVarParseUint
import Derived.Ground.GgtProg
import Derived.Shelf.GgSortMore.Iface
import Derived.Shelf.GgSortMore.IfaceD
import Derived.Shelf.GgSortMore.IfacePart
import Derived.Shelf.GgSortMore.IfacePdq
import Derived.Shelf.GgSortMore.SortSort
import Derived.Ground.GgsProg
import Derived.Shelf.SlSortFunc.Xorshift
import Derived.Shelf.SlSortIface.SiftDown
import Derived.Shelf.SlSortIface.HeapSort
import Derived.Shelf.SlSortIface.PartialInsertion
import Derived.Test.YtgoeiflddikihaaGreatDoorProg
namespace Go.Proofs
open Go.Shelf
def Tryz.lays128_ren : Go.Shelf.Ren := ⟨fun | 128 => 130 | n => n, fun | 51 => 60 | 3 => 3 | 4 => 4 | 46 => 209 | 5 => 5 | 9 => 9 | n => n, fun | n => n⟩
theorem Tryz.lays128 : Go.Proofs.Lays.n128 Tryz.prog Tryz.lays128_ren := {
  mixed := by kernel_rfl
  f128 := Tryz.func130.trans (congrArg some (by kernel_rfl))
  t3 := Tryz.underlying3
  a3 := Tryz.isAgg3
  z3 := Tryz.sizeOf3
  v3 := Tryz.zeroValue3
  t4 := Tryz.underlying4
  a4 := Tryz.isAgg4
  z4 := Tryz.sizeOf4
  v4 := Tryz.zeroValue4
  t5 := Tryz.underlying5
  a5 := Tryz.isAgg5
  z5 := Tryz.sizeOf5
  v5 := Tryz.zeroValue5
  t9 := Tryz.underlying9
  a9 := Tryz.isAgg9
  z9 := Tryz.sizeOf9
  v9 := Tryz.zeroValue9
  t46 := Tryz.underlying209
  a46 := Tryz.isAgg209
  z46 := Tryz.sizeOf209
  v46 := Tryz.zeroValue209
  t51 := Tryz.underlying60
  a51 := Tryz.isAgg60
  z51 := Tryz.sizeOf60
  v51 := Tryz.zeroValue60 }
/-- bits.Len32: "Len32 returns the minimum number of bits required to represent x; the result is 0 for x == 0.": IT RETURNS 'Lib.bitLen x'; the world is as it was. ('h0', 'h1': x is a uint32.) (LAID: no walk: one application.) -/
theorem Tryz.bits_Len32 (x : Int) (w : World) (h0 : 0 ≤ x) (h1 : x ≤ 4294967295) :
    Calls Tryz.prog 130 #[.int .u32 x] w fun e w' => e = .returned (.int .i64 (Lib.bitLen x.toNat)) ∧ w' = w := Any.bits_Len32 Tryz.lays128 x w h0 h1
def Tryz.lays125_ren : Go.Shelf.Ren := ⟨fun | 125 => 123 | 128 => 130 | 129 => 131 | n => n, fun | 46 => 209 | 3 => 3 | 51 => 60 | 53 => 46 | 4 => 4 | 5 => 5 | 9 => 9 | n => n, fun | n => n⟩
theorem Tryz.lays125 : Go.Proofs.Lays.n125 Tryz.prog Tryz.lays125_ren := {
  mixed := by kernel_rfl
  f125 := Tryz.func123.trans (congrArg some (by kernel_rfl))
  f128 := Tryz.func130.trans (congrArg some (by kernel_rfl))
  f129 := Tryz.func131.trans (congrArg some (by kernel_rfl))
  t3 := Tryz.underlying3
  a3 := Tryz.isAgg3
  z3 := Tryz.sizeOf3
  v3 := Tryz.zeroValue3
  t4 := Tryz.underlying4
  a4 := Tryz.isAgg4
  z4 := Tryz.sizeOf4
  v4 := Tryz.zeroValue4
  t5 := Tryz.underlying5
  a5 := Tryz.isAgg5
  z5 := Tryz.sizeOf5
  v5 := Tryz.zeroValue5
  t9 := Tryz.underlying9
  a9 := Tryz.isAgg9
  z9 := Tryz.sizeOf9
  v9 := Tryz.zeroValue9
  t46 := Tryz.underlying209
  a46 := Tryz.isAgg209
  z46 := Tryz.sizeOf209
  v46 := Tryz.zeroValue209
  t51 := Tryz.underlying60
  a51 := Tryz.isAgg60
  z51 := Tryz.sizeOf60
  v51 := Tryz.zeroValue60
  t53 := Tryz.underlying46
  a53 := Tryz.isAgg46
  z53 := Tryz.sizeOf46
  v53 := Tryz.zeroValue46 }
/-- bits.Len: "Len returns the minimum number of bits required to represent x; the result is 0 for x == 0.": IT RETURNS 'Lib.bitLen x'; the world is as it was. (A uint has 64 bits in the model.) ITS CALLEE bits.Len64 IS MET BY ITS OWN CONTRACT OFF THE SHELF (lay that first). (LAID: no walk: one application.) -/
theorem Tryz.bits_Len (x : Int) (w : World) (h0 : 0 ≤ x) (h1 : x ≤ 18446744073709551615) :
    Calls Tryz.prog 123 #[.int .u64 x] w fun e w' => e = .returned (.int .i64 (Lib.bitLen x.toNat)) ∧ w' = w := Any.bits_Len Tryz.lays125 x w h0 h1
def Tryz.lays129_ren : Go.Shelf.Ren := ⟨fun | 129 => 131 | n => n, fun | 53 => 46 | 3 => 3 | 4 => 4 | 46 => 209 | 5 => 5 | 9 => 9 | n => n, fun | n => n⟩
theorem Tryz.lays129 : Go.Proofs.Lays.n129 Tryz.prog Tryz.lays129_ren := {
  mixed := by kernel_rfl
  f129 := Tryz.func131.trans (congrArg some (by kernel_rfl))
  t3 := Tryz.underlying3
  a3 := Tryz.isAgg3
  z3 := Tryz.sizeOf3
  v3 := Tryz.zeroValue3
  t4 := Tryz.underlying4
  a4 := Tryz.isAgg4
  z4 := Tryz.sizeOf4
  v4 := Tryz.zeroValue4
  t5 := Tryz.underlying5
  a5 := Tryz.isAgg5
  z5 := Tryz.sizeOf5
  v5 := Tryz.zeroValue5
  t9 := Tryz.underlying9
  a9 := Tryz.isAgg9
  z9 := Tryz.sizeOf9
  v9 := Tryz.zeroValue9
  t46 := Tryz.underlying209
  a46 := Tryz.isAgg209
  z46 := Tryz.sizeOf209
  v46 := Tryz.zeroValue209
  t53 := Tryz.underlying46
  a53 := Tryz.isAgg46
  z53 := Tryz.sizeOf46
  v53 := Tryz.zeroValue46 }
/-- bits.Len64: "Len64 returns the minimum number of bits required to represent x; the result is 0 for x == 0.": IT RETURNS 'Lib.bitLen x'; the world is as it was. ('h0', 'h1': x is a uint64.) (LAID: no walk: one application.) -/
theorem Tryz.bits_Len64 (x : Int) (w : World) (h0 : 0 ≤ x) (h1 : x ≤ 18446744073709551615) :
    Calls Tryz.prog 131 #[.int .u64 x] w fun e w' => e = .returned (.int .i64 (Lib.bitLen x.toNat)) ∧ w' = w := Any.bits_Len64 Tryz.lays129 x w h0 h1
def Tryz.lays317_ren : Go.Shelf.Ren := ⟨fun | 317 => 172 | n => n, fun | 3 => 3 | 46 => 209 | n => n, fun | n => n⟩
theorem Tryz.lays317 : Go.Proofs.Lays.n317 Tryz.prog Tryz.lays317_ren := {
  mixed := by kernel_rfl
  f317 := Tryz.func172.trans (congrArg some (by kernel_rfl))
  t3 := Tryz.underlying3
  a3 := Tryz.isAgg3
  z3 := Tryz.sizeOf3
  v3 := Tryz.zeroValue3
  t46 := Tryz.underlying209
  a46 := Tryz.isAgg209
  z46 := Tryz.sizeOf209
  v46 := Tryz.zeroValue209 }
open Go.Lib in
/-- internal/strconv.log10Pow2: "log10Pow2(x) returns ⌊log₁₀ 2**x⌋ = ⌊x * log₁₀ 2⌋.": '(x * 78913) >> 18', at an x up to 64 (a length in bits). The world is as it was. (LAID: no walk: one application.) -/
theorem Tryz.internal_strconv_log10Pow2 (x : Nat) (h : x ≤ 64) (w : World) :
    Calls Tryz.prog 172 #[.int .i64 x] w fun e w' => e = .returned (.int .i64 (Lib.l10 x)) ∧ w' = w := Any.internal_strconv_log10Pow2 Tryz.lays317 x h w
def Tryz.lays318_ren : Go.Shelf.Ren := ⟨fun | 318 => 173 | n => n, fun | 3 => 3 | 4 => 4 | n => n, fun | n => n⟩
theorem Tryz.lays318 : Go.Proofs.Lays.n318 Tryz.prog Tryz.lays318_ren := {
  mixed := by kernel_rfl
  f318 := Tryz.func173.trans (congrArg some (by kernel_rfl))
  t3 := Tryz.underlying3
  a3 := Tryz.isAgg3
  z3 := Tryz.sizeOf3
  v3 := Tryz.zeroValue3
  t4 := Tryz.underlying4
  a4 := Tryz.isAgg4
  z4 := Tryz.sizeOf4
  v4 := Tryz.zeroValue4 }
open Go.Lib in
/-- internal/strconv.bool2: "bool2 converts b to an integer: 1 for true, 0 for false." The world is as it was. (LAID: no walk: one application.) -/
theorem Tryz.internal_strconv_bool2_int (b : Bool) (w : World) :
    Calls Tryz.prog 173 #[.bool b] w fun e w' => e = .returned (.int .i64 (if b then 1 else 0)) ∧ w' = w := Any.internal_strconv_bool2_int Tryz.lays318 b w
def Tryz.lays283_ren : Go.Shelf.Ren := ⟨fun | 283 => 168 | n => n, fun | 3 => 3 | 9 => 9 | 4 => 4 | n => n, fun | n => n⟩
theorem Tryz.lays283 : Go.Proofs.Lays.n283 Tryz.prog Tryz.lays283_ren := {
  mixed := by kernel_rfl
  f283 := Tryz.func168.trans (congrArg some (by kernel_rfl))
  t3 := Tryz.underlying3
  a3 := Tryz.isAgg3
  z3 := Tryz.sizeOf3
  v3 := Tryz.zeroValue3
  t4 := Tryz.underlying4
  a4 := Tryz.isAgg4
  z4 := Tryz.sizeOf4
  v4 := Tryz.zeroValue4
  t9 := Tryz.underlying9
  a9 := Tryz.isAgg9
  z9 := Tryz.sizeOf9
  v9 := Tryz.zeroValue9 }
open Go.Lib in
/-- internal/strconv.small: "small returns the string for an i with 0 <= i < nSmalls.": i's decimal numeral. The world is as it was. (LAID: no walk: one application.) -/
theorem Tryz.internal_strconv_small (i : Nat) (h : i < 100) (w : World) :
    Calls Tryz.prog 168 #[.int .i64 i] w fun e w' => e = .returned (.string ⟨(Lib.decDigits i).toArray⟩) ∧ w' = w := Any.internal_strconv_small Tryz.lays283 i h w
def Tryz.laysM284_ren : Go.Shelf.Ren := ⟨fun | 284 => 169 | 129 => 131 | 317 => 172 | 318 => 173 | n => n, fun | 53 => 46 | 3 => 3 | 212 => 282 | 0 => 0 | 4 => 4 | 46 => 209 | 5 => 5 | 9 => 9 | n => n, fun | 17 => 2 | n => n⟩
theorem Tryz.laysM284 : Go.Proofs.LaysM.n284 Tryz.prog Tryz.laysM284_ren := {
  mixed := by kernel_rfl
  f129 := Tryz.func131.trans (congrArg some (by kernel_rfl))
  f284 := Tryz.func169.trans (congrArg some (by kernel_rfl))
  f317 := Tryz.func172.trans (congrArg some (by kernel_rfl))
  f318 := Tryz.func173.trans (congrArg some (by kernel_rfl))
  t0 := Tryz.underlying0
  a0 := Tryz.isAgg0
  z0 := Tryz.sizeOf0
  v0 := Tryz.zeroValue0
  t3 := Tryz.underlying3
  a3 := Tryz.isAgg3
  z3 := Tryz.sizeOf3
  v3 := Tryz.zeroValue3
  t4 := Tryz.underlying4
  a4 := Tryz.isAgg4
  z4 := Tryz.sizeOf4
  v4 := Tryz.zeroValue4
  t5 := Tryz.underlying5
  a5 := Tryz.isAgg5
  z5 := Tryz.sizeOf5
  v5 := Tryz.zeroValue5
  t9 := Tryz.underlying9
  a9 := Tryz.isAgg9
  z9 := Tryz.sizeOf9
  v9 := Tryz.zeroValue9
  t46 := Tryz.underlying209
  a46 := Tryz.isAgg209
  z46 := Tryz.sizeOf209
  v46 := Tryz.zeroValue209
  t53 := Tryz.underlying46
  a53 := Tryz.isAgg46
  z53 := Tryz.sizeOf46
  v53 := Tryz.zeroValue46
  t212 := Tryz.underlying282
  a212 := Tryz.isAgg282
  z212 := Tryz.sizeOf282
  v212 := Tryz.zeroValue282
  g17 := by kernel_rfl
  i0 := by kernel_rfl
  i3 := by kernel_rfl
  i4 := by kernel_rfl
  i5 := by kernel_rfl
  i9 := by kernel_rfl
  i46 := by kernel_rfl
  i53 := by kernel_rfl
  i212 := by kernel_rfl
  m17 := by kernel_rfl }
open Go.Lib in
/-- internal/strconv.numDigits, at a d that is not 0: THE NUMBER OF d's DECIMAL DIGITS. The world is as it was. (LAID: no walk: one application.) -/
theorem Tryz.internal_strconv_numDigits (u : Nat) (h1 : 1 ≤ u) (h2 : u < 18446744073709551616) (w : World) (htab : Lib.TabIs Tryz.prog w "internal/strconv.uint64pow10" .u64 Lib.pow10Tab) :
    Calls Tryz.prog 169 #[.int .u64 u] w fun e w' => e = .returned (.int .i64 (Lib.nDigits u)) ∧ w' = w := Any.internal_strconv_numDigits Tryz.laysM284 u h1 h2 w htab
def Tryz.lays285_ren : Go.Shelf.Ren := ⟨fun | 285 => 170 | n => n, fun | 37 => 80 | 53 => 46 | 3 => 3 | 4 => 4 | 51 => 60 | 9 => 9 | 5 => 5 | 0 => 0 | n => n, fun | n => n⟩
theorem Tryz.lays285 : Go.Proofs.Lays.n285 Tryz.prog Tryz.lays285_ren := {
  mixed := by kernel_rfl
  f285 := Tryz.func170.trans (congrArg some (by kernel_rfl))
  t0 := Tryz.underlying0
  a0 := Tryz.isAgg0
  z0 := Tryz.sizeOf0
  v0 := Tryz.zeroValue0
  t3 := Tryz.underlying3
  a3 := Tryz.isAgg3
  z3 := Tryz.sizeOf3
  v3 := Tryz.zeroValue3
  t4 := Tryz.underlying4
  a4 := Tryz.isAgg4
  z4 := Tryz.sizeOf4
  v4 := Tryz.zeroValue4
  t5 := Tryz.underlying5
  a5 := Tryz.isAgg5
  z5 := Tryz.sizeOf5
  v5 := Tryz.zeroValue5
  t9 := Tryz.underlying9
  a9 := Tryz.isAgg9
  z9 := Tryz.sizeOf9
  v9 := Tryz.zeroValue9
  t37 := Tryz.underlying80
  a37 := Tryz.isAgg80
  z37 := Tryz.sizeOf80
  v37 := Tryz.zeroValue80
  t51 := Tryz.underlying60
  a51 := Tryz.isAgg60
  z51 := Tryz.sizeOf60
  v51 := Tryz.zeroValue60
  t53 := Tryz.underlying46
  a53 := Tryz.isAgg46
  z53 := Tryz.sizeOf46
  v53 := Tryz.zeroValue46 }
open Go.RowKit Go.Sort Go.Lib in
/-- internal/strconv.formatBase10: "formatBase10 formats the decimal representation of u into a. The caller is responsible for ensuring that a is big enough to hold u. If a is too big, leading zeros will be filled in as needed.": THE ROW HOLDS u's DIGITS ('FmtInv .. 0 ..': every place t holds 'dg u (len - 1 - t)'); all else is as it was but for the count of draws. (LAID: no walk: one application.) -/
theorem Tryz.internal_strconv_formatBase10 (blk off cap : Nat) (u : Nat) (d : Array UInt8) (w : World) (hH : Holds (fun (b : UInt8) => Value.int .u8 (b.toNat : Int)) w blk off d) (hu : u < 10 ^ d.size) (hu64 : u < 18446744073709551616) (hsz : d.size < 4611686018427387904) :
    Calls Tryz.prog 170 #[.slice (some ⟨blk, off, none⟩) d.size cap, .int .u64 u] w fun e w' =>
      e = .returned (.tuple #[]) ∧ ∃ (n v' : Nat) (dk : Array UInt8), w' = (putRow (fun (b : UInt8) => Value.int .u8 (b.toNat : Int)) w blk off dk).drewN n ∧ FmtInv d.size u 0 v' dk := Any.internal_strconv_formatBase10 Tryz.lays285 blk off cap u d w hH hu hu64 hsz
def Tryz.laysM246_ren : Go.Shelf.Ren := ⟨fun | 246 => 167 | 283 => 168 | 284 => 169 | 285 => 170 | 286 => 171 | 129 => 131 | 317 => 172 | 318 => 173 | 319 => 174 | 320 => 175 | 337 => 176 | 338 => 177 | n => n, fun | 2 => 2 | 3 => 3 | 9 => 9 | 4 => 4 | 171 => 277 | 0 => 0 | 53 => 46 | 37 => 80 | 5 => 5 | 173 => 279 | 212 => 282 | 51 => 60 | 20 => 20 | 213 => 283 | 46 => 209 | 232 => 285 | 233 => 286 | n => n, fun | 17 => 2 | 18 => 3 | 19 => 4 | n => n⟩
theorem Tryz.laysM246 : Go.Proofs.LaysM.n246 Tryz.prog Tryz.laysM246_ren := {
  mixed := by kernel_rfl
  f129 := Tryz.func131.trans (congrArg some (by kernel_rfl))
  f246 := Tryz.func167.trans (congrArg some (by kernel_rfl))
  f283 := Tryz.func168.trans (congrArg some (by kernel_rfl))
  f284 := Tryz.func169.trans (congrArg some (by kernel_rfl))
  f285 := Tryz.func170.trans (congrArg some (by kernel_rfl))
  f286 := Tryz.func171.trans (congrArg some (by kernel_rfl))
  f317 := Tryz.func172.trans (congrArg some (by kernel_rfl))
  f318 := Tryz.func173.trans (congrArg some (by kernel_rfl))
  f319 := Tryz.func174.trans (congrArg some (by kernel_rfl))
  f320 := Tryz.func175.trans (congrArg some (by kernel_rfl))
  f337 := Tryz.func176.trans (congrArg some (by kernel_rfl))
  f338 := Tryz.func177.trans (congrArg some (by kernel_rfl))
  t0 := Tryz.underlying0
  a0 := Tryz.isAgg0
  z0 := Tryz.sizeOf0
  v0 := Tryz.zeroValue0
  t2 := Tryz.underlying2
  a2 := Tryz.isAgg2
  z2 := Tryz.sizeOf2
  v2 := Tryz.zeroValue2
  t3 := Tryz.underlying3
  a3 := Tryz.isAgg3
  z3 := Tryz.sizeOf3
  v3 := Tryz.zeroValue3
  t4 := Tryz.underlying4
  a4 := Tryz.isAgg4
  z4 := Tryz.sizeOf4
  v4 := Tryz.zeroValue4
  t5 := Tryz.underlying5
  a5 := Tryz.isAgg5
  z5 := Tryz.sizeOf5
  v5 := Tryz.zeroValue5
  t9 := Tryz.underlying9
  a9 := Tryz.isAgg9
  z9 := Tryz.sizeOf9
  v9 := Tryz.zeroValue9
  t20 := Tryz.underlying20
  a20 := Tryz.isAgg20
  z20 := Tryz.sizeOf20
  v20 := Tryz.zeroValue20
  t37 := Tryz.underlying80
  a37 := Tryz.isAgg80
  z37 := Tryz.sizeOf80
  v37 := Tryz.zeroValue80
  t46 := Tryz.underlying209
  a46 := Tryz.isAgg209
  z46 := Tryz.sizeOf209
  v46 := Tryz.zeroValue209
  t51 := Tryz.underlying60
  a51 := Tryz.isAgg60
  z51 := Tryz.sizeOf60
  v51 := Tryz.zeroValue60
  t53 := Tryz.underlying46
  a53 := Tryz.isAgg46
  z53 := Tryz.sizeOf46
  v53 := Tryz.zeroValue46
  t171 := Tryz.underlying277
  a171 := Tryz.isAgg277
  z171 := Tryz.sizeOf277
  v171 := Tryz.zeroValue277
  t173 := Tryz.underlying279
  a173 := Tryz.isAgg279
  z173 := Tryz.sizeOf279
  v173 := Tryz.zeroValue279
  t212 := Tryz.underlying282
  a212 := Tryz.isAgg282
  z212 := Tryz.sizeOf282
  v212 := Tryz.zeroValue282
  t213 := Tryz.underlying283
  a213 := Tryz.isAgg283
  z213 := Tryz.sizeOf283
  t232 := Tryz.underlying285
  a232 := Tryz.isAgg285
  z232 := Tryz.sizeOf285
  v232 := Tryz.zeroValue285
  t233 := Tryz.underlying286
  a233 := Tryz.isAgg286
  z233 := Tryz.sizeOf286
  v233 := Tryz.zeroValue286
  g17 := by kernel_rfl
  g18 := by kernel_rfl
  g19 := by kernel_rfl
  i0 := by kernel_rfl
  i2 := by kernel_rfl
  i3 := by kernel_rfl
  i4 := by kernel_rfl
  i5 := by kernel_rfl
  i9 := by kernel_rfl
  i20 := by kernel_rfl
  i37 := by kernel_rfl
  i46 := by kernel_rfl
  i51 := by kernel_rfl
  i53 := by kernel_rfl
  i171 := by kernel_rfl
  i173 := by kernel_rfl
  i212 := by kernel_rfl
  i232 := by kernel_rfl
  i233 := by kernel_rfl
  m17 := by kernel_rfl
  m18 := by kernel_rfl
  m19 := by kernel_rfl }
open Go.RowKit Go.Sort Go.Lib in
/-- internal/strconv.FormatInt: "FormatInt returns the string representation of i in the given base": AT BASE 10: i's decimal numeral, for every int64. The world behind the call: the world before it, new blocks behind the heap, draws. (LAID: no walk: one application.) -/
theorem Tryz.internal_strconv_FormatInt_10 (n : Int) (h0 : -9223372036854775808 ≤ n) (h1 : n ≤ 9223372036854775807) (w : World) (htab : Lib.TabIs Tryz.prog w "internal/strconv.uint64pow10" .u64 Lib.pow10Tab) :
    Calls Tryz.prog 167 #[.int .i64 n, .int .i64 10] w fun e w' => e = .returned (.string ⟨(Lib.itoa n).toArray⟩) ∧ ∃ k os, w' = grow (w.drewN k) os := Any.internal_strconv_FormatInt_10 Tryz.laysM246 n h0 h1 w htab
def Tryz.lays246_ren : Go.Shelf.Ren := ⟨fun | 246 => 167 | 283 => 168 | 284 => 169 | 285 => 170 | 286 => 171 | 129 => 131 | 317 => 172 | 318 => 173 | 319 => 174 | 320 => 175 | 337 => 176 | 338 => 177 | n => n, fun | 2 => 2 | 3 => 3 | 9 => 9 | 4 => 4 | 171 => 277 | 0 => 0 | 53 => 46 | 37 => 80 | 5 => 5 | 173 => 279 | 212 => 282 | 51 => 60 | 20 => 20 | 213 => 283 | 46 => 209 | 232 => 285 | 233 => 286 | n => n, fun | 17 => 2 | 18 => 3 | 19 => 4 | n => n⟩
theorem Tryz.lays246 : Go.Proofs.Lays.n246 Tryz.prog Tryz.lays246_ren := {
  mixed := by kernel_rfl
  f129 := Tryz.func131.trans (congrArg some (by kernel_rfl))
  f246 := Tryz.func167.trans (congrArg some (by kernel_rfl))
  f283 := Tryz.func168.trans (congrArg some (by kernel_rfl))
  f284 := Tryz.func169.trans (congrArg some (by kernel_rfl))
  f285 := Tryz.func170.trans (congrArg some (by kernel_rfl))
  f286 := Tryz.func171.trans (congrArg some (by kernel_rfl))
  f317 := Tryz.func172.trans (congrArg some (by kernel_rfl))
  f318 := Tryz.func173.trans (congrArg some (by kernel_rfl))
  f319 := Tryz.func174.trans (congrArg some (by kernel_rfl))
  f320 := Tryz.func175.trans (congrArg some (by kernel_rfl))
  f337 := Tryz.func176.trans (congrArg some (by kernel_rfl))
  f338 := Tryz.func177.trans (congrArg some (by kernel_rfl))
  t0 := Tryz.underlying0
  a0 := Tryz.isAgg0
  z0 := Tryz.sizeOf0
  v0 := Tryz.zeroValue0
  t2 := Tryz.underlying2
  a2 := Tryz.isAgg2
  z2 := Tryz.sizeOf2
  v2 := Tryz.zeroValue2
  t3 := Tryz.underlying3
  a3 := Tryz.isAgg3
  z3 := Tryz.sizeOf3
  v3 := Tryz.zeroValue3
  t4 := Tryz.underlying4
  a4 := Tryz.isAgg4
  z4 := Tryz.sizeOf4
  v4 := Tryz.zeroValue4
  t5 := Tryz.underlying5
  a5 := Tryz.isAgg5
  z5 := Tryz.sizeOf5
  v5 := Tryz.zeroValue5
  t9 := Tryz.underlying9
  a9 := Tryz.isAgg9
  z9 := Tryz.sizeOf9
  v9 := Tryz.zeroValue9
  t20 := Tryz.underlying20
  a20 := Tryz.isAgg20
  z20 := Tryz.sizeOf20
  v20 := Tryz.zeroValue20
  t37 := Tryz.underlying80
  a37 := Tryz.isAgg80
  z37 := Tryz.sizeOf80
  v37 := Tryz.zeroValue80
  t46 := Tryz.underlying209
  a46 := Tryz.isAgg209
  z46 := Tryz.sizeOf209
  v46 := Tryz.zeroValue209
  t51 := Tryz.underlying60
  a51 := Tryz.isAgg60
  z51 := Tryz.sizeOf60
  v51 := Tryz.zeroValue60
  t53 := Tryz.underlying46
  a53 := Tryz.isAgg46
  z53 := Tryz.sizeOf46
  v53 := Tryz.zeroValue46
  t171 := Tryz.underlying277
  a171 := Tryz.isAgg277
  z171 := Tryz.sizeOf277
  v171 := Tryz.zeroValue277
  t173 := Tryz.underlying279
  a173 := Tryz.isAgg279
  z173 := Tryz.sizeOf279
  v173 := Tryz.zeroValue279
  t212 := Tryz.underlying282
  a212 := Tryz.isAgg282
  z212 := Tryz.sizeOf282
  v212 := Tryz.zeroValue282
  t213 := Tryz.underlying283
  a213 := Tryz.isAgg283
  z213 := Tryz.sizeOf283
  t232 := Tryz.underlying285
  a232 := Tryz.isAgg285
  z232 := Tryz.sizeOf285
  v232 := Tryz.zeroValue285
  t233 := Tryz.underlying286
  a233 := Tryz.isAgg286
  z233 := Tryz.sizeOf286
  v233 := Tryz.zeroValue286
  g17 := by kernel_rfl
  g18 := by kernel_rfl
  g19 := by kernel_rfl }
open Go.RowKit Go.Sort Go.Lib in
/-- THE ROAD WITHOUT THE TABLE: 0 <= i < 100: two constants are read, nothing is laid: no premise on the world, and the world is as it was. (LAID: no walk: one application.) -/
theorem Tryz.internal_strconv_FormatInt_10_small (i : Nat) (hi : i < 100) (w : World) :
    Calls Tryz.prog 167 #[.int .i64 i, .int .i64 10] w fun e w' => e = .returned (.string ⟨(Lib.decDigits i).toArray⟩) ∧ w' = w := Any.internal_strconv_FormatInt_10_small Tryz.lays246 i hi w
def Tryz.laysM243_ren : Go.Shelf.Ren := ⟨fun | 243 => 166 | 246 => 167 | 283 => 168 | 284 => 169 | 285 => 170 | 286 => 171 | 129 => 131 | 317 => 172 | 318 => 173 | 319 => 174 | 320 => 175 | 337 => 176 | 338 => 177 | n => n, fun | 3 => 3 | 9 => 9 | 2 => 2 | 4 => 4 | 171 => 277 | 0 => 0 | 53 => 46 | 37 => 80 | 5 => 5 | 173 => 279 | 212 => 282 | 51 => 60 | 20 => 20 | 213 => 283 | 46 => 209 | 232 => 285 | 233 => 286 | n => n, fun | 17 => 2 | 18 => 3 | 19 => 4 | n => n⟩
theorem Tryz.laysM243 : Go.Proofs.LaysM.n243 Tryz.prog Tryz.laysM243_ren := {
  mixed := by kernel_rfl
  f129 := Tryz.func131.trans (congrArg some (by kernel_rfl))
  f243 := Tryz.func166.trans (congrArg some (by kernel_rfl))
  f246 := Tryz.func167.trans (congrArg some (by kernel_rfl))
  f283 := Tryz.func168.trans (congrArg some (by kernel_rfl))
  f284 := Tryz.func169.trans (congrArg some (by kernel_rfl))
  f285 := Tryz.func170.trans (congrArg some (by kernel_rfl))
  f286 := Tryz.func171.trans (congrArg some (by kernel_rfl))
  f317 := Tryz.func172.trans (congrArg some (by kernel_rfl))
  f318 := Tryz.func173.trans (congrArg some (by kernel_rfl))
  f319 := Tryz.func174.trans (congrArg some (by kernel_rfl))
  f320 := Tryz.func175.trans (congrArg some (by kernel_rfl))
  f337 := Tryz.func176.trans (congrArg some (by kernel_rfl))
  f338 := Tryz.func177.trans (congrArg some (by kernel_rfl))
  t0 := Tryz.underlying0
  a0 := Tryz.isAgg0
  z0 := Tryz.sizeOf0
  v0 := Tryz.zeroValue0
  t2 := Tryz.underlying2
  a2 := Tryz.isAgg2
  z2 := Tryz.sizeOf2
  v2 := Tryz.zeroValue2
  t3 := Tryz.underlying3
  a3 := Tryz.isAgg3
  z3 := Tryz.sizeOf3
  v3 := Tryz.zeroValue3
  t4 := Tryz.underlying4
  a4 := Tryz.isAgg4
  z4 := Tryz.sizeOf4
  v4 := Tryz.zeroValue4
  t5 := Tryz.underlying5
  a5 := Tryz.isAgg5
  z5 := Tryz.sizeOf5
  v5 := Tryz.zeroValue5
  t9 := Tryz.underlying9
  a9 := Tryz.isAgg9
  z9 := Tryz.sizeOf9
  v9 := Tryz.zeroValue9
  t20 := Tryz.underlying20
  a20 := Tryz.isAgg20
  z20 := Tryz.sizeOf20
  v20 := Tryz.zeroValue20
  t37 := Tryz.underlying80
  a37 := Tryz.isAgg80
  z37 := Tryz.sizeOf80
  v37 := Tryz.zeroValue80
  t46 := Tryz.underlying209
  a46 := Tryz.isAgg209
  z46 := Tryz.sizeOf209
  v46 := Tryz.zeroValue209
  t51 := Tryz.underlying60
  a51 := Tryz.isAgg60
  z51 := Tryz.sizeOf60
  v51 := Tryz.zeroValue60
  t53 := Tryz.underlying46
  a53 := Tryz.isAgg46
  z53 := Tryz.sizeOf46
  v53 := Tryz.zeroValue46
  t171 := Tryz.underlying277
  a171 := Tryz.isAgg277
  z171 := Tryz.sizeOf277
  v171 := Tryz.zeroValue277
  t173 := Tryz.underlying279
  a173 := Tryz.isAgg279
  z173 := Tryz.sizeOf279
  v173 := Tryz.zeroValue279
  t212 := Tryz.underlying282
  a212 := Tryz.isAgg282
  z212 := Tryz.sizeOf282
  v212 := Tryz.zeroValue282
  t213 := Tryz.underlying283
  a213 := Tryz.isAgg283
  z213 := Tryz.sizeOf283
  t232 := Tryz.underlying285
  a232 := Tryz.isAgg285
  z232 := Tryz.sizeOf285
  v232 := Tryz.zeroValue285
  t233 := Tryz.underlying286
  a233 := Tryz.isAgg286
  z233 := Tryz.sizeOf286
  v233 := Tryz.zeroValue286
  g17 := by kernel_rfl
  g18 := by kernel_rfl
  g19 := by kernel_rfl
  i0 := by kernel_rfl
  i2 := by kernel_rfl
  i3 := by kernel_rfl
  i4 := by kernel_rfl
  i5 := by kernel_rfl
  i9 := by kernel_rfl
  i20 := by kernel_rfl
  i37 := by kernel_rfl
  i46 := by kernel_rfl
  i51 := by kernel_rfl
  i53 := by kernel_rfl
  i171 := by kernel_rfl
  i173 := by kernel_rfl
  i212 := by kernel_rfl
  i232 := by kernel_rfl
  i233 := by kernel_rfl
  m17 := by kernel_rfl
  m18 := by kernel_rfl
  m19 := by kernel_rfl }
open Go.RowKit Go.Sort Go.Lib in
/-- internal/strconv.Itoa: "Itoa is equivalent to FormatInt(int64(i), 10).": i's decimal numeral, for every int. (LAID: no walk: one application.) -/
theorem Tryz.internal_strconv_Itoa (n : Int) (h0 : -9223372036854775808 ≤ n) (h1 : n ≤ 9223372036854775807) (w : World) (htab : Lib.TabIs Tryz.prog w "internal/strconv.uint64pow10" .u64 Lib.pow10Tab) :
    Calls Tryz.prog 166 #[.int .i64 n] w fun e w' => e = .returned (.string ⟨(Lib.itoa n).toArray⟩) ∧ ∃ k os, w' = grow (w.drewN k) os := Any.internal_strconv_Itoa Tryz.laysM243 n h0 h1 w htab
def Tryz.lays243_ren : Go.Shelf.Ren := ⟨fun | 243 => 166 | 246 => 167 | 283 => 168 | 284 => 169 | 285 => 170 | 286 => 171 | 129 => 131 | 317 => 172 | 318 => 173 | 319 => 174 | 320 => 175 | 337 => 176 | 338 => 177 | n => n, fun | 3 => 3 | 9 => 9 | 2 => 2 | 4 => 4 | 171 => 277 | 0 => 0 | 53 => 46 | 37 => 80 | 5 => 5 | 173 => 279 | 212 => 282 | 51 => 60 | 20 => 20 | 213 => 283 | 46 => 209 | 232 => 285 | 233 => 286 | n => n, fun | 17 => 2 | 18 => 3 | 19 => 4 | n => n⟩
theorem Tryz.lays243 : Go.Proofs.Lays.n243 Tryz.prog Tryz.lays243_ren := {
  mixed := by kernel_rfl
  f129 := Tryz.func131.trans (congrArg some (by kernel_rfl))
  f243 := Tryz.func166.trans (congrArg some (by kernel_rfl))
  f246 := Tryz.func167.trans (congrArg some (by kernel_rfl))
  f283 := Tryz.func168.trans (congrArg some (by kernel_rfl))
  f284 := Tryz.func169.trans (congrArg some (by kernel_rfl))
  f285 := Tryz.func170.trans (congrArg some (by kernel_rfl))
  f286 := Tryz.func171.trans (congrArg some (by kernel_rfl))
  f317 := Tryz.func172.trans (congrArg some (by kernel_rfl))
  f318 := Tryz.func173.trans (congrArg some (by kernel_rfl))
  f319 := Tryz.func174.trans (congrArg some (by kernel_rfl))
  f320 := Tryz.func175.trans (congrArg some (by kernel_rfl))
  f337 := Tryz.func176.trans (congrArg some (by kernel_rfl))
  f338 := Tryz.func177.trans (congrArg some (by kernel_rfl))
  t0 := Tryz.underlying0
  a0 := Tryz.isAgg0
  z0 := Tryz.sizeOf0
  v0 := Tryz.zeroValue0
  t2 := Tryz.underlying2
  a2 := Tryz.isAgg2
  z2 := Tryz.sizeOf2
  v2 := Tryz.zeroValue2
  t3 := Tryz.underlying3
  a3 := Tryz.isAgg3
  z3 := Tryz.sizeOf3
  v3 := Tryz.zeroValue3
  t4 := Tryz.underlying4
  a4 := Tryz.isAgg4
  z4 := Tryz.sizeOf4
  v4 := Tryz.zeroValue4
  t5 := Tryz.underlying5
  a5 := Tryz.isAgg5
  z5 := Tryz.sizeOf5
  v5 := Tryz.zeroValue5
  t9 := Tryz.underlying9
  a9 := Tryz.isAgg9
  z9 := Tryz.sizeOf9
  v9 := Tryz.zeroValue9
  t20 := Tryz.underlying20
  a20 := Tryz.isAgg20
  z20 := Tryz.sizeOf20
  v20 := Tryz.zeroValue20
  t37 := Tryz.underlying80
  a37 := Tryz.isAgg80
  z37 := Tryz.sizeOf80
  v37 := Tryz.zeroValue80
  t46 := Tryz.underlying209
  a46 := Tryz.isAgg209
  z46 := Tryz.sizeOf209
  v46 := Tryz.zeroValue209
  t51 := Tryz.underlying60
  a51 := Tryz.isAgg60
  z51 := Tryz.sizeOf60
  v51 := Tryz.zeroValue60
  t53 := Tryz.underlying46
  a53 := Tryz.isAgg46
  z53 := Tryz.sizeOf46
  v53 := Tryz.zeroValue46
  t171 := Tryz.underlying277
  a171 := Tryz.isAgg277
  z171 := Tryz.sizeOf277
  v171 := Tryz.zeroValue277
  t173 := Tryz.underlying279
  a173 := Tryz.isAgg279
  z173 := Tryz.sizeOf279
  v173 := Tryz.zeroValue279
  t212 := Tryz.underlying282
  a212 := Tryz.isAgg282
  z212 := Tryz.sizeOf282
  v212 := Tryz.zeroValue282
  t213 := Tryz.underlying283
  a213 := Tryz.isAgg283
  z213 := Tryz.sizeOf283
  t232 := Tryz.underlying285
  a232 := Tryz.isAgg285
  z232 := Tryz.sizeOf285
  v232 := Tryz.zeroValue285
  t233 := Tryz.underlying286
  a233 := Tryz.isAgg286
  z233 := Tryz.sizeOf286
  v233 := Tryz.zeroValue286
  g17 := by kernel_rfl
  g18 := by kernel_rfl
  g19 := by kernel_rfl }
open Go.RowKit Go.Sort Go.Lib in
/-- THE ROAD WITHOUT THE TABLE: 0 <= i < 100. (LAID: no walk: one application.) -/
theorem Tryz.internal_strconv_Itoa_small (i : Nat) (hi : i < 100) (w : World) :
    Calls Tryz.prog 166 #[.int .i64 i] w fun e w' => e = .returned (.string ⟨(Lib.decDigits i).toArray⟩) ∧ w' = w := Any.internal_strconv_Itoa_small Tryz.lays243 i hi w
def Tryz.laysM171_ren : Go.Shelf.Ren := ⟨fun | 171 => 165 | 243 => 166 | 246 => 167 | 283 => 168 | 284 => 169 | 285 => 170 | 286 => 171 | 129 => 131 | 317 => 172 | 318 => 173 | 319 => 174 | 320 => 175 | 337 => 176 | 338 => 177 | n => n, fun | 3 => 3 | 9 => 9 | 2 => 2 | 4 => 4 | 171 => 277 | 0 => 0 | 53 => 46 | 37 => 80 | 5 => 5 | 173 => 279 | 212 => 282 | 51 => 60 | 20 => 20 | 213 => 283 | 46 => 209 | 232 => 285 | 233 => 286 | n => n, fun | 17 => 2 | 18 => 3 | 19 => 4 | n => n⟩
theorem Tryz.laysM171 : Go.Proofs.LaysM.n171 Tryz.prog Tryz.laysM171_ren := {
  mixed := by kernel_rfl
  f129 := Tryz.func131.trans (congrArg some (by kernel_rfl))
  f171 := Tryz.func165.trans (congrArg some (by kernel_rfl))
  f243 := Tryz.func166.trans (congrArg some (by kernel_rfl))
  f246 := Tryz.func167.trans (congrArg some (by kernel_rfl))
  f283 := Tryz.func168.trans (congrArg some (by kernel_rfl))
  f284 := Tryz.func169.trans (congrArg some (by kernel_rfl))
  f285 := Tryz.func170.trans (congrArg some (by kernel_rfl))
  f286 := Tryz.func171.trans (congrArg some (by kernel_rfl))
  f317 := Tryz.func172.trans (congrArg some (by kernel_rfl))
  f318 := Tryz.func173.trans (congrArg some (by kernel_rfl))
  f319 := Tryz.func174.trans (congrArg some (by kernel_rfl))
  f320 := Tryz.func175.trans (congrArg some (by kernel_rfl))
  f337 := Tryz.func176.trans (congrArg some (by kernel_rfl))
  f338 := Tryz.func177.trans (congrArg some (by kernel_rfl))
  t0 := Tryz.underlying0
  a0 := Tryz.isAgg0
  z0 := Tryz.sizeOf0
  v0 := Tryz.zeroValue0
  t2 := Tryz.underlying2
  a2 := Tryz.isAgg2
  z2 := Tryz.sizeOf2
  v2 := Tryz.zeroValue2
  t3 := Tryz.underlying3
  a3 := Tryz.isAgg3
  z3 := Tryz.sizeOf3
  v3 := Tryz.zeroValue3
  t4 := Tryz.underlying4
  a4 := Tryz.isAgg4
  z4 := Tryz.sizeOf4
  v4 := Tryz.zeroValue4
  t5 := Tryz.underlying5
  a5 := Tryz.isAgg5
  z5 := Tryz.sizeOf5
  v5 := Tryz.zeroValue5
  t9 := Tryz.underlying9
  a9 := Tryz.isAgg9
  z9 := Tryz.sizeOf9
  v9 := Tryz.zeroValue9
  t20 := Tryz.underlying20
  a20 := Tryz.isAgg20
  z20 := Tryz.sizeOf20
  v20 := Tryz.zeroValue20
  t37 := Tryz.underlying80
  a37 := Tryz.isAgg80
  z37 := Tryz.sizeOf80
  v37 := Tryz.zeroValue80
  t46 := Tryz.underlying209
  a46 := Tryz.isAgg209
  z46 := Tryz.sizeOf209
  v46 := Tryz.zeroValue209
  t51 := Tryz.underlying60
  a51 := Tryz.isAgg60
  z51 := Tryz.sizeOf60
  v51 := Tryz.zeroValue60
  t53 := Tryz.underlying46
  a53 := Tryz.isAgg46
  z53 := Tryz.sizeOf46
  v53 := Tryz.zeroValue46
  t171 := Tryz.underlying277
  a171 := Tryz.isAgg277
  z171 := Tryz.sizeOf277
  v171 := Tryz.zeroValue277
  t173 := Tryz.underlying279
  a173 := Tryz.isAgg279
  z173 := Tryz.sizeOf279
  v173 := Tryz.zeroValue279
  t212 := Tryz.underlying282
  a212 := Tryz.isAgg282
  z212 := Tryz.sizeOf282
  v212 := Tryz.zeroValue282
  t213 := Tryz.underlying283
  a213 := Tryz.isAgg283
  z213 := Tryz.sizeOf283
  t232 := Tryz.underlying285
  a232 := Tryz.isAgg285
  z232 := Tryz.sizeOf285
  v232 := Tryz.zeroValue285
  t233 := Tryz.underlying286
  a233 := Tryz.isAgg286
  z233 := Tryz.sizeOf286
  v233 := Tryz.zeroValue286
  g17 := by kernel_rfl
  g18 := by kernel_rfl
  g19 := by kernel_rfl
  i0 := by kernel_rfl
  i2 := by kernel_rfl
  i3 := by kernel_rfl
  i4 := by kernel_rfl
  i5 := by kernel_rfl
  i9 := by kernel_rfl
  i20 := by kernel_rfl
  i37 := by kernel_rfl
  i46 := by kernel_rfl
  i51 := by kernel_rfl
  i53 := by kernel_rfl
  i171 := by kernel_rfl
  i173 := by kernel_rfl
  i212 := by kernel_rfl
  i232 := by kernel_rfl
  i233 := by kernel_rfl
  m17 := by kernel_rfl
  m18 := by kernel_rfl
  m19 := by kernel_rfl }
open Go.RowKit Go.Sort Go.Lib in
/-- strconv.Itoa: "Itoa is equivalent to FormatInt(int64(i), 10).": i's DECIMAL NUMERAL ('Lib.itoa': a '-' where i is negative, then the digits), FOR EVERY int. The world behind the call: the world before it, new blocks behind the heap (the library's 'var a [24]byte'), draws. (LAID: no walk: one application.) -/
theorem Tryz.strconv_Itoa (n : Int) (h0 : -9223372036854775808 ≤ n) (h1 : n ≤ 9223372036854775807) (w : World) (htab : Lib.TabIs Tryz.prog w "internal/strconv.uint64pow10" .u64 Lib.pow10Tab) :
    Calls Tryz.prog 165 #[.int .i64 n] w fun e w' => e = .returned (.string ⟨(Lib.itoa n).toArray⟩) ∧ ∃ k os, w' = grow (w.drewN k) os := Any.strconv_Itoa Tryz.laysM171 n h0 h1 w htab
def Tryz.lays171_ren : Go.Shelf.Ren := ⟨fun | 171 => 165 | 243 => 166 | 246 => 167 | 283 => 168 | 284 => 169 | 285 => 170 | 286 => 171 | 129 => 131 | 317 => 172 | 318 => 173 | 319 => 174 | 320 => 175 | 337 => 176 | 338 => 177 | n => n, fun | 3 => 3 | 9 => 9 | 2 => 2 | 4 => 4 | 171 => 277 | 0 => 0 | 53 => 46 | 37 => 80 | 5 => 5 | 173 => 279 | 212 => 282 | 51 => 60 | 20 => 20 | 213 => 283 | 46 => 209 | 232 => 285 | 233 => 286 | n => n, fun | 17 => 2 | 18 => 3 | 19 => 4 | n => n⟩
theorem Tryz.lays171 : Go.Proofs.Lays.n171 Tryz.prog Tryz.lays171_ren := {
  mixed := by kernel_rfl
  f129 := Tryz.func131.trans (congrArg some (by kernel_rfl))
  f171 := Tryz.func165.trans (congrArg some (by kernel_rfl))
  f243 := Tryz.func166.trans (congrArg some (by kernel_rfl))
  f246 := Tryz.func167.trans (congrArg some (by kernel_rfl))
  f283 := Tryz.func168.trans (congrArg some (by kernel_rfl))
  f284 := Tryz.func169.trans (congrArg some (by kernel_rfl))
  f285 := Tryz.func170.trans (congrArg some (by kernel_rfl))
  f286 := Tryz.func171.trans (congrArg some (by kernel_rfl))
  f317 := Tryz.func172.trans (congrArg some (by kernel_rfl))
  f318 := Tryz.func173.trans (congrArg some (by kernel_rfl))
  f319 := Tryz.func174.trans (congrArg some (by kernel_rfl))
  f320 := Tryz.func175.trans (congrArg some (by kernel_rfl))
  f337 := Tryz.func176.trans (congrArg some (by kernel_rfl))
  f338 := Tryz.func177.trans (congrArg some (by kernel_rfl))
  t0 := Tryz.underlying0
  a0 := Tryz.isAgg0
  z0 := Tryz.sizeOf0
  v0 := Tryz.zeroValue0
  t2 := Tryz.underlying2
  a2 := Tryz.isAgg2
  z2 := Tryz.sizeOf2
  v2 := Tryz.zeroValue2
  t3 := Tryz.underlying3
  a3 := Tryz.isAgg3
  z3 := Tryz.sizeOf3
  v3 := Tryz.zeroValue3
  t4 := Tryz.underlying4
  a4 := Tryz.isAgg4
  z4 := Tryz.sizeOf4
  v4 := Tryz.zeroValue4
  t5 := Tryz.underlying5
  a5 := Tryz.isAgg5
  z5 := Tryz.sizeOf5
  v5 := Tryz.zeroValue5
  t9 := Tryz.underlying9
  a9 := Tryz.isAgg9
  z9 := Tryz.sizeOf9
  v9 := Tryz.zeroValue9
  t20 := Tryz.underlying20
  a20 := Tryz.isAgg20
  z20 := Tryz.sizeOf20
  v20 := Tryz.zeroValue20
  t37 := Tryz.underlying80
  a37 := Tryz.isAgg80
  z37 := Tryz.sizeOf80
  v37 := Tryz.zeroValue80
  t46 := Tryz.underlying209
  a46 := Tryz.isAgg209
  z46 := Tryz.sizeOf209
  v46 := Tryz.zeroValue209
  t51 := Tryz.underlying60
  a51 := Tryz.isAgg60
  z51 := Tryz.sizeOf60
  v51 := Tryz.zeroValue60
  t53 := Tryz.underlying46
  a53 := Tryz.isAgg46
  z53 := Tryz.sizeOf46
  v53 := Tryz.zeroValue46
  t171 := Tryz.underlying277
  a171 := Tryz.isAgg277
  z171 := Tryz.sizeOf277
  v171 := Tryz.zeroValue277
  t173 := Tryz.underlying279
  a173 := Tryz.isAgg279
  z173 := Tryz.sizeOf279
  v173 := Tryz.zeroValue279
  t212 := Tryz.underlying282
  a212 := Tryz.isAgg282
  z212 := Tryz.sizeOf282
  v212 := Tryz.zeroValue282
  t213 := Tryz.underlying283
  a213 := Tryz.isAgg283
  z213 := Tryz.sizeOf283
  t232 := Tryz.underlying285
  a232 := Tryz.isAgg285
  z232 := Tryz.sizeOf285
  v232 := Tryz.zeroValue285
  t233 := Tryz.underlying286
  a233 := Tryz.isAgg286
  z233 := Tryz.sizeOf286
  v233 := Tryz.zeroValue286
  g17 := by kernel_rfl
  g18 := by kernel_rfl
  g19 := by kernel_rfl }
open Go.RowKit Go.Sort Go.Lib in
/-- THE ROAD WITHOUT THE TABLE: 0 <= i < 100: NO PREMISE ON THE WORLD, AND THE WORLD IS AS IT WAS: a row that keeps its argument in that range need list no table ('laid = []'). (LAID: no walk: one application.) -/
theorem Tryz.strconv_Itoa_small (i : Nat) (hi : i < 100) (w : World) :
    Calls Tryz.prog 165 #[.int .i64 i] w fun e w' => e = .returned (.string ⟨(Lib.decDigits i).toArray⟩) ∧ w' = w := Any.strconv_Itoa_small Tryz.lays171 i hi w
def Tryz.laysM316_ren : Go.Shelf.Ren := ⟨fun | 316 => 164 | n => n, fun | 9 => 9 | 3 => 3 | 4 => 4 | 37 => 80 | 0 => 0 | 127 => 275 | 5 => 5 | n => n, fun | n => n⟩
theorem Tryz.laysM316 : Go.Proofs.LaysM.n316 Tryz.prog Tryz.laysM316_ren := {
  mixed := by kernel_rfl
  f316 := Tryz.func164.trans (congrArg some (by kernel_rfl))
  t0 := Tryz.underlying0
  a0 := Tryz.isAgg0
  z0 := Tryz.sizeOf0
  v0 := Tryz.zeroValue0
  t3 := Tryz.underlying3
  a3 := Tryz.isAgg3
  z3 := Tryz.sizeOf3
  v3 := Tryz.zeroValue3
  t4 := Tryz.underlying4
  a4 := Tryz.isAgg4
  z4 := Tryz.sizeOf4
  v4 := Tryz.zeroValue4
  t9 := Tryz.underlying9
  a9 := Tryz.isAgg9
  z9 := Tryz.sizeOf9
  v9 := Tryz.zeroValue9
  t37 := Tryz.underlying80
  a37 := Tryz.isAgg80
  z37 := Tryz.sizeOf80
  v37 := Tryz.zeroValue80
  t127 := Tryz.underlying275
  a127 := Tryz.isAgg275
  z127 := Tryz.sizeOf275
  v127 := Tryz.zeroValue275
  t5 := Tryz.underlying5
  a5 := Tryz.isAgg5
  z5 := Tryz.sizeOf5
  v5 := Tryz.zeroValue5
  i0 := by kernel_rfl
  i3 := by kernel_rfl
  i4 := by kernel_rfl
  i5 := by kernel_rfl
  i9 := by kernel_rfl
  i37 := by kernel_rfl
  i127 := by kernel_rfl }
open Go.RowKit in
/-- internal/stringslite.Clone (what strings.Clone calls): "Clone returns a fresh copy of s.": THE SAME BYTES. Of what was there nothing has turned (a new row is laid, and frozen, where s is not empty). (LAID: no walk: one application.) -/
theorem Tryz.stringslite_Clone (s : ByteArray) (w : World) (hlim : s.size ≤ 281474976710656) :
    Calls Tryz.prog 164 #[.string s] w fun e w' => e = .returned (.string s) ∧ Below w.heap.size w w' := Any.stringslite_Clone Tryz.laysM316 s w hlim
def Tryz.laysM279_ren : Go.Shelf.Ren := ⟨fun | 279 => 160 | 316 => 164 | n => n, fun | 9 => 9 | 168 => 269 | 75 => 166 | 210 => 273 | 3 => 3 | 4 => 4 | 37 => 80 | 0 => 0 | 127 => 275 | 80 => 129 | 5 => 5 | n => n, fun | 15 => 0 | n => n⟩
theorem Tryz.laysM279 : Go.Proofs.LaysM.n279 Tryz.prog Tryz.laysM279_ren := {
  mixed := by kernel_rfl
  f279 := Tryz.func160.trans (congrArg some (by kernel_rfl))
  f316 := Tryz.func164.trans (congrArg some (by kernel_rfl))
  t0 := Tryz.underlying0
  a0 := Tryz.isAgg0
  z0 := Tryz.sizeOf0
  v0 := Tryz.zeroValue0
  t3 := Tryz.underlying3
  a3 := Tryz.isAgg3
  z3 := Tryz.sizeOf3
  v3 := Tryz.zeroValue3
  t4 := Tryz.underlying4
  a4 := Tryz.isAgg4
  z4 := Tryz.sizeOf4
  v4 := Tryz.zeroValue4
  t9 := Tryz.underlying9
  a9 := Tryz.isAgg9
  z9 := Tryz.sizeOf9
  v9 := Tryz.zeroValue9
  t37 := Tryz.underlying80
  a37 := Tryz.isAgg80
  z37 := Tryz.sizeOf80
  v37 := Tryz.zeroValue80
  t75 := Tryz.underlying166
  a75 := Tryz.isAgg166
  z75 := Tryz.sizeOf166
  v75 := Tryz.zeroValue166
  t127 := Tryz.underlying275
  a127 := Tryz.isAgg275
  z127 := Tryz.sizeOf275
  v127 := Tryz.zeroValue275
  t168 := Tryz.underlying269
  a168 := Tryz.isAgg269
  z168 := Tryz.sizeOf269
  v168 := Tryz.zeroValue269
  t210 := Tryz.underlying273
  a210 := Tryz.isAgg273
  z210 := Tryz.sizeOf273
  v210 := Tryz.zeroValue273
  g15 := by kernel_rfl
  t5 := Tryz.underlying5
  a5 := Tryz.isAgg5
  z5 := Tryz.sizeOf5
  v5 := Tryz.zeroValue5
  t80 := Tryz.underlying129
  a80 := Tryz.isAgg129
  z80 := Tryz.sizeOf129
  v80 := Tryz.zeroValue129
  i0 := by kernel_rfl
  i3 := by kernel_rfl
  i4 := by kernel_rfl
  i5 := by kernel_rfl
  i9 := by kernel_rfl
  i37 := by kernel_rfl
  i75 := by kernel_rfl
  i80 := by kernel_rfl
  i127 := by kernel_rfl
  i168 := by kernel_rfl
  i210 := by kernel_rfl
  m15 := by kernel_rfl }
open Go.RowKit in
/-- strconv.syntaxError: '&NumError{fn, stringslite.Clone(str), ErrSyntax}': A POINTER TO A NEW BLOCK that holds fn, str's bytes, and what the variable ErrSyntax holds. Of what was there nothing has turned. (LAID: no walk: one application.) -/
theorem Tryz.strconv_syntaxError (fn s : ByteArray) (ev : Value) (w : World) (hlim : s.size ≤ 281474976710656) (hv : w.cell? ⟨0, 0, none⟩ = some ev) (hev : ev = .nilIface ∨ ∃ te pe, ev = .iface te pe) :
    Calls Tryz.prog 160 #[.string fn, .string s] w fun e w' => ∃ N, e = .returned (.pointer (some ⟨N, 0, none⟩)) ∧ w.heap.size ≤ N ∧ w'.heap[N]? = some (.cells #[.string fn, .string s, ev] 273 (0, 0)) ∧ Below w.heap.size w w' := Any.strconv_syntaxError Tryz.laysM279 fn s ev w hlim hv hev
def Tryz.laysC245_ren : Go.Shelf.Ren := ⟨fun | 245 => 157 | 279 => 160 | 280 => 161 | 281 => 162 | 282 => 163 | 316 => 164 | 171 => 165 | 205 => 144 | 243 => 166 | 246 => 167 | 283 => 168 | 284 => 169 | 285 => 170 | 286 => 171 | 129 => 131 | 317 => 172 | 318 => 173 | 319 => 174 | 320 => 175 | 337 => 176 | 338 => 177 | n => n, fun | 9 => 9 | 3 => 3 | 75 => 166 | 167 => 267 | 4 => 4 | 168 => 269 | 210 => 273 | 37 => 80 | 0 => 0 | 127 => 275 | 145 => 262 | 143 => 260 | 2 => 2 | 171 => 277 | 53 => 46 | 5 => 5 | 173 => 279 | 212 => 282 | 51 => 60 | 20 => 20 | 213 => 283 | 46 => 209 | 232 => 285 | 233 => 286 | 80 => 129 | n => n, fun | 15 => 0 | 16 => 1 | 17 => 2 | 18 => 3 | 19 => 4 | n => n⟩
theorem Tryz.laysC245 : Go.Proofs.LaysC.n245 Tryz.prog Tryz.laysC245_ren := {
  mixed := by kernel_rfl
  f129 := Tryz.func131.trans (congrArg some (by kernel_rfl))
  f171 := Tryz.func165.trans (congrArg some (by kernel_rfl))
  f205 := Tryz.func144.trans (congrArg some (by kernel_rfl))
  f243 := Tryz.func166.trans (congrArg some (by kernel_rfl))
  f245 := Tryz.func157.trans (congrArg some (by kernel_rfl))
  f246 := Tryz.func167.trans (congrArg some (by kernel_rfl))
  f279 := Tryz.func160.trans (congrArg some (by kernel_rfl))
  f280 := Tryz.func161.trans (congrArg some (by kernel_rfl))
  f281 := Tryz.func162.trans (congrArg some (by kernel_rfl))
  f282 := Tryz.func163.trans (congrArg some (by kernel_rfl))
  f283 := Tryz.func168.trans (congrArg some (by kernel_rfl))
  f284 := Tryz.func169.trans (congrArg some (by kernel_rfl))
  f285 := Tryz.func170.trans (congrArg some (by kernel_rfl))
  f286 := Tryz.func171.trans (congrArg some (by kernel_rfl))
  f316 := Tryz.func164.trans (congrArg some (by kernel_rfl))
  f317 := Tryz.func172.trans (congrArg some (by kernel_rfl))
  f318 := Tryz.func173.trans (congrArg some (by kernel_rfl))
  f319 := Tryz.func174.trans (congrArg some (by kernel_rfl))
  f320 := Tryz.func175.trans (congrArg some (by kernel_rfl))
  f337 := Tryz.func176.trans (congrArg some (by kernel_rfl))
  f338 := Tryz.func177.trans (congrArg some (by kernel_rfl))
  t0 := Tryz.underlying0
  a0 := Tryz.isAgg0
  z0 := Tryz.sizeOf0
  v0 := Tryz.zeroValue0
  t2 := Tryz.underlying2
  a2 := Tryz.isAgg2
  z2 := Tryz.sizeOf2
  v2 := Tryz.zeroValue2
  t3 := Tryz.underlying3
  a3 := Tryz.isAgg3
  z3 := Tryz.sizeOf3
  v3 := Tryz.zeroValue3
  t4 := Tryz.underlying4
  a4 := Tryz.isAgg4
  z4 := Tryz.sizeOf4
  v4 := Tryz.zeroValue4
  t5 := Tryz.underlying5
  a5 := Tryz.isAgg5
  z5 := Tryz.sizeOf5
  v5 := Tryz.zeroValue5
  t9 := Tryz.underlying9
  a9 := Tryz.isAgg9
  z9 := Tryz.sizeOf9
  v9 := Tryz.zeroValue9
  t20 := Tryz.underlying20
  a20 := Tryz.isAgg20
  z20 := Tryz.sizeOf20
  v20 := Tryz.zeroValue20
  t37 := Tryz.underlying80
  a37 := Tryz.isAgg80
  z37 := Tryz.sizeOf80
  v37 := Tryz.zeroValue80
  t46 := Tryz.underlying209
  a46 := Tryz.isAgg209
  z46 := Tryz.sizeOf209
  v46 := Tryz.zeroValue209
  t51 := Tryz.underlying60
  a51 := Tryz.isAgg60
  z51 := Tryz.sizeOf60
  v51 := Tryz.zeroValue60
  t53 := Tryz.underlying46
  a53 := Tryz.isAgg46
  z53 := Tryz.sizeOf46
  v53 := Tryz.zeroValue46
  t75 := Tryz.underlying166
  a75 := Tryz.isAgg166
  z75 := Tryz.sizeOf166
  v75 := Tryz.zeroValue166
  t127 := Tryz.underlying275
  a127 := Tryz.isAgg275
  z127 := Tryz.sizeOf275
  v127 := Tryz.zeroValue275
  t143 := Tryz.underlying260
  a143 := Tryz.isAgg260
  z143 := Tryz.sizeOf260
  v143 := Tryz.zeroValue260
  t145 := Tryz.underlying262
  a145 := Tryz.isAgg262
  z145 := Tryz.sizeOf262
  v145 := Tryz.zeroValue262
  t167 := Tryz.underlying267
  a167 := Tryz.isAgg267
  z167 := Tryz.sizeOf267
  v167 := Tryz.zeroValue267
  t168 := Tryz.underlying269
  a168 := Tryz.isAgg269
  z168 := Tryz.sizeOf269
  v168 := Tryz.zeroValue269
  t171 := Tryz.underlying277
  a171 := Tryz.isAgg277
  z171 := Tryz.sizeOf277
  v171 := Tryz.zeroValue277
  t173 := Tryz.underlying279
  a173 := Tryz.isAgg279
  z173 := Tryz.sizeOf279
  v173 := Tryz.zeroValue279
  t210 := Tryz.underlying273
  a210 := Tryz.isAgg273
  z210 := Tryz.sizeOf273
  v210 := Tryz.zeroValue273
  t212 := Tryz.underlying282
  a212 := Tryz.isAgg282
  z212 := Tryz.sizeOf282
  v212 := Tryz.zeroValue282
  t213 := Tryz.underlying283
  a213 := Tryz.isAgg283
  z213 := Tryz.sizeOf283
  t232 := Tryz.underlying285
  a232 := Tryz.isAgg285
  z232 := Tryz.sizeOf285
  v232 := Tryz.zeroValue285
  t233 := Tryz.underlying286
  a233 := Tryz.isAgg286
  z233 := Tryz.sizeOf286
  v233 := Tryz.zeroValue286
  g15 := by kernel_rfl
  g16 := by kernel_rfl
  g17 := by kernel_rfl
  g18 := by kernel_rfl
  g19 := by kernel_rfl
  t80 := Tryz.underlying129
  a80 := Tryz.isAgg129
  z80 := Tryz.sizeOf129
  v80 := Tryz.zeroValue129
  i0 := by kernel_rfl
  i2 := by kernel_rfl
  i3 := by kernel_rfl
  i4 := by kernel_rfl
  i5 := by kernel_rfl
  i9 := by kernel_rfl
  i20 := by kernel_rfl
  i37 := by kernel_rfl
  i46 := by kernel_rfl
  i51 := by kernel_rfl
  i53 := by kernel_rfl
  i75 := by kernel_rfl
  i80 := by kernel_rfl
  i127 := by kernel_rfl
  i143 := by kernel_rfl
  i145 := by kernel_rfl
  i167 := by kernel_rfl
  i168 := by kernel_rfl
  i171 := by kernel_rfl
  i173 := by kernel_rfl
  i210 := by kernel_rfl
  i212 := by kernel_rfl
  i232 := by kernel_rfl
  i233 := by kernel_rfl
  m15 := by kernel_rfl
  m16 := by kernel_rfl
  m17 := by kernel_rfl
  m18 := by kernel_rfl
  m19 := by kernel_rfl
  c0 := by kernel_rfl
  c2 := by kernel_rfl
  c3 := by kernel_rfl
  c4 := by kernel_rfl
  c5 := by kernel_rfl
  c9 := by kernel_rfl
  c20 := by kernel_rfl
  c37 := by kernel_rfl
  c46 := by kernel_rfl
  c51 := by kernel_rfl
  c53 := by kernel_rfl
  c75 := by kernel_rfl
  c80 := by kernel_rfl
  c127 := by kernel_rfl
  c143 := by kernel_rfl
  c145 := by kernel_rfl
  c167 := by kernel_rfl
  c168 := by kernel_rfl
  c171 := by kernel_rfl
  c173 := by kernel_rfl
  c210 := by kernel_rfl
  c212 := by kernel_rfl
  c213 := by kernel_rfl
  c232 := by kernel_rfl
  c233 := by kernel_rfl }
open Go.RowKit in
/-- strconv.toError, at the inner package's ErrSyntax: 'syntaxError(fn, s)' as an error: A *NumError IN A NEW BLOCK. (LAID: no walk: one application.) -/
theorem Tryz.strconv_toError_syntax (fn s : ByteArray) (base bits : Int) (ev : Value) (w : World) (hlim : s.size ≤ 281474976710656) (hv : w.cell? ⟨0, 0, none⟩ = some ev) (hev : ev = .nilIface ∨ ∃ te pe, ev = .iface te pe) :
    Calls Tryz.prog 157 #[.string fn, .string s, .int .i64 base, .int .i64 bits, .iface 267 (.int .i64 2)] w fun e w' => ∃ N, e = .returned (.iface 269 (.pointer (some ⟨N, 0, none⟩))) ∧ w.heap.size ≤ N ∧ w'.heap[N]? = some (.cells #[.string fn, .string s, ev] 273 (0, 0)) ∧ Below w.heap.size w w' := Any.strconv_toError_syntax Tryz.laysC245 fn s base bits ev w hlim hv hev
def Tryz.lays321_ren : Go.Shelf.Ren := ⟨fun | 321 => 158 | n => n, fun | 5 => 5 | n => n, fun | n => n⟩
theorem Tryz.lays321 : Go.Proofs.Lays.n321 Tryz.prog Tryz.lays321_ren := {
  mixed := by kernel_rfl
  f321 := Tryz.func158.trans (congrArg some (by kernel_rfl))
  t5 := Tryz.underlying5
  a5 := Tryz.isAgg5
  z5 := Tryz.sizeOf5
  v5 := Tryz.zeroValue5 }
open Go.RowKit in
/-- internal/strconv.lower: 'c | ('x' - 'X')': the bit 32 set. The world is as it was. (LAID: no walk: one application.) -/
theorem Tryz.internal_strconv_lower (c : Int) (w : World) :
    Calls Tryz.prog 158 #[.int .u8 c] w fun e w' => e = .returned (.int .u8 (bits .or .u8 c 32)) ∧ w' = w := Any.internal_strconv_lower Tryz.lays321 c w
def Tryz.lays287_ren : Go.Shelf.Ren := ⟨fun | 287 => 156 | 321 => 158 | 322 => 159 | n => n, fun | 9 => 9 | 3 => 3 | 53 => 46 | 75 => 166 | 4 => 4 | 167 => 267 | 5 => 5 | 46 => 209 | 37 => 80 | 0 => 0 | 21 => 21 | 80 => 129 | n => n, fun | n => n⟩
theorem Tryz.lays287 : Go.Proofs.Lays.n287 Tryz.prog Tryz.lays287_ren := {
  mixed := by kernel_rfl
  f287 := Tryz.func156.trans (congrArg some (by kernel_rfl))
  f321 := Tryz.func158.trans (congrArg some (by kernel_rfl))
  f322 := Tryz.func159.trans (congrArg some (by kernel_rfl))
  t0 := Tryz.underlying0
  a0 := Tryz.isAgg0
  z0 := Tryz.sizeOf0
  v0 := Tryz.zeroValue0
  t3 := Tryz.underlying3
  a3 := Tryz.isAgg3
  z3 := Tryz.sizeOf3
  v3 := Tryz.zeroValue3
  t4 := Tryz.underlying4
  a4 := Tryz.isAgg4
  z4 := Tryz.sizeOf4
  v4 := Tryz.zeroValue4
  t5 := Tryz.underlying5
  a5 := Tryz.isAgg5
  z5 := Tryz.sizeOf5
  v5 := Tryz.zeroValue5
  t9 := Tryz.underlying9
  a9 := Tryz.isAgg9
  z9 := Tryz.sizeOf9
  v9 := Tryz.zeroValue9
  t21 := Tryz.underlying21
  a21 := Tryz.isAgg21
  z21 := Tryz.sizeOf21
  v21 := Tryz.zeroValue21
  t37 := Tryz.underlying80
  a37 := Tryz.isAgg80
  z37 := Tryz.sizeOf80
  v37 := Tryz.zeroValue80
  t46 := Tryz.underlying209
  a46 := Tryz.isAgg209
  z46 := Tryz.sizeOf209
  v46 := Tryz.zeroValue209
  t53 := Tryz.underlying46
  a53 := Tryz.isAgg46
  z53 := Tryz.sizeOf46
  v53 := Tryz.zeroValue46
  t75 := Tryz.underlying166
  a75 := Tryz.isAgg166
  z75 := Tryz.sizeOf166
  v75 := Tryz.zeroValue166
  t167 := Tryz.underlying267
  a167 := Tryz.isAgg267
  z167 := Tryz.sizeOf267
  v167 := Tryz.zeroValue267 }
open Go.RowKit in
/-- internal/strconv.ParseUint(s, 10, 0), s NOT EMPTY: 'Lib.parseUint10 0' OF ITS BYTES: the number; or (0, ErrSyntax); or (the greatest uint64, ErrRange). The world behind the call: the one new row that '[]byte(s)' lays. (LAID: no walk: one application.) -/
theorem Tryz.internal_strconv_ParseUint_10 (t : ByteArray) (hne : t.size ≠ 0) (hmax : t.size ≤ 9223372036854775806) (w : World) :
    Calls Tryz.prog 156 #[.string t, .int .i64 10, .int .i64 0] w fun e w' => e = .returned (Lib.uintTuple 267 (Lib.parseUint10 0 t.data.toList)) ∧ w' = Lib.bytesWorld w 5 t := Any.internal_strconv_ParseUint_10 Tryz.lays287 t hne hmax w
open Go.RowKit in
/-- internal/strconv.ParseUint("", 10, 0): (0, ErrSyntax). The world is as it was. (LAID: no walk: one application.) -/
theorem Tryz.internal_strconv_ParseUint_10_empty (w : World) :
    Calls Tryz.prog 156 #[.string ⟨#[]⟩, .int .i64 10, .int .i64 0] w fun e w' => e = .returned (Lib.uintTuple 267 Lib.NumEnd.syntax) ∧ w' = w := Any.internal_strconv_ParseUint_10_empty Tryz.lays287 w
open Go.RowKit in
/-- internal/strconv.ParseUint(s, 10, 0): 'Lib.parseMag' OF ITS BYTES. The world: as it was (the empty string), or with the one new row that '[]byte(s)' lays. (LAID: no walk: one application.) -/
theorem Tryz.internal_strconv_ParseUint_10_any (t : ByteArray) (hmax : t.size ≤ 9223372036854775806) (w : World) :
    Calls Tryz.prog 156 #[.string t, .int .i64 10, .int .i64 0] w fun e w' => e = .returned (Lib.uintTuple 267 (Lib.parseMag t.data.toList)) ∧ (w' = w ∨ w' = Lib.bytesWorld w 5 t) := Any.internal_strconv_ParseUint_10_any Tryz.lays287 t hmax w
def Tryz.laysM280_ren : Go.Shelf.Ren := ⟨fun | 280 => 161 | 316 => 164 | n => n, fun | 9 => 9 | 168 => 269 | 75 => 166 | 210 => 273 | 3 => 3 | 4 => 4 | 37 => 80 | 0 => 0 | 127 => 275 | 80 => 129 | 5 => 5 | n => n, fun | 16 => 1 | n => n⟩
theorem Tryz.laysM280 : Go.Proofs.LaysM.n280 Tryz.prog Tryz.laysM280_ren := {
  mixed := by kernel_rfl
  f280 := Tryz.func161.trans (congrArg some (by kernel_rfl))
  f316 := Tryz.func164.trans (congrArg some (by kernel_rfl))
  t0 := Tryz.underlying0
  a0 := Tryz.isAgg0
  z0 := Tryz.sizeOf0
  v0 := Tryz.zeroValue0
  t3 := Tryz.underlying3
  a3 := Tryz.isAgg3
  z3 := Tryz.sizeOf3
  v3 := Tryz.zeroValue3
  t4 := Tryz.underlying4
  a4 := Tryz.isAgg4
  z4 := Tryz.sizeOf4
  v4 := Tryz.zeroValue4
  t9 := Tryz.underlying9
  a9 := Tryz.isAgg9
  z9 := Tryz.sizeOf9
  v9 := Tryz.zeroValue9
  t37 := Tryz.underlying80
  a37 := Tryz.isAgg80
  z37 := Tryz.sizeOf80
  v37 := Tryz.zeroValue80
  t75 := Tryz.underlying166
  a75 := Tryz.isAgg166
  z75 := Tryz.sizeOf166
  v75 := Tryz.zeroValue166
  t127 := Tryz.underlying275
  a127 := Tryz.isAgg275
  z127 := Tryz.sizeOf275
  v127 := Tryz.zeroValue275
  t168 := Tryz.underlying269
  a168 := Tryz.isAgg269
  z168 := Tryz.sizeOf269
  v168 := Tryz.zeroValue269
  t210 := Tryz.underlying273
  a210 := Tryz.isAgg273
  z210 := Tryz.sizeOf273
  v210 := Tryz.zeroValue273
  g16 := by kernel_rfl
  t5 := Tryz.underlying5
  a5 := Tryz.isAgg5
  z5 := Tryz.sizeOf5
  v5 := Tryz.zeroValue5
  t80 := Tryz.underlying129
  a80 := Tryz.isAgg129
  z80 := Tryz.sizeOf129
  v80 := Tryz.zeroValue129
  i0 := by kernel_rfl
  i3 := by kernel_rfl
  i4 := by kernel_rfl
  i5 := by kernel_rfl
  i9 := by kernel_rfl
  i37 := by kernel_rfl
  i75 := by kernel_rfl
  i80 := by kernel_rfl
  i127 := by kernel_rfl
  i168 := by kernel_rfl
  i210 := by kernel_rfl
  m16 := by kernel_rfl }
open Go.RowKit in
/-- strconv.rangeError: '&NumError{fn, stringslite.Clone(str), ErrRange}': A POINTER TO A NEW BLOCK that holds fn, str's bytes, and what the variable ErrRange holds. Of what was there nothing has turned. (LAID: no walk: one application.) -/
theorem Tryz.strconv_rangeError (fn s : ByteArray) (ev : Value) (w : World) (hlim : s.size ≤ 281474976710656) (hv : w.cell? ⟨1, 0, none⟩ = some ev) (hev : ev = .nilIface ∨ ∃ te pe, ev = .iface te pe) :
    Calls Tryz.prog 161 #[.string fn, .string s] w fun e w' => ∃ N, e = .returned (.pointer (some ⟨N, 0, none⟩)) ∧ w.heap.size ≤ N ∧ w'.heap[N]? = some (.cells #[.string fn, .string s, ev] 273 (0, 0)) ∧ Below w.heap.size w w' := Any.strconv_rangeError Tryz.laysM280 fn s ev w hlim hv hev
open Go.RowKit in
/-- strconv.toError, at the inner package's ErrRange: 'rangeError(fn, s)' as an error: A *NumError IN A NEW BLOCK. (LAID: no walk: one application.) -/
theorem Tryz.strconv_toError_range (fn s : ByteArray) (base bits : Int) (ev : Value) (w : World) (hlim : s.size ≤ 281474976710656) (hv : w.cell? ⟨1, 0, none⟩ = some ev) (hev : ev = .nilIface ∨ ∃ te pe, ev = .iface te pe) :
    Calls Tryz.prog 157 #[.string fn, .string s, .int .i64 base, .int .i64 bits, .iface 267 (.int .i64 1)] w fun e w' => ∃ N, e = .returned (.iface 269 (.pointer (some ⟨N, 0, none⟩))) ∧ w.heap.size ≤ N ∧ w'.heap[N]? = some (.cells #[.string fn, .string s, ev] 273 (0, 0)) ∧ Below w.heap.size w w' := Any.strconv_toError_range Tryz.laysC245 fn s base bits ev w hlim hv hev
def Tryz.laysPu14_ren : Go.Shelf.Ren := ⟨fun | 14 => 152 | 16 => 156 | 17 => 157 | 19 => 158 | 20 => 159 | 21 => 160 | 22 => 161 | 23 => 162 | 24 => 163 | 25 => 164 | 27 => 165 | 26 => 144 | 28 => 166 | 29 => 167 | 30 => 168 | 31 => 169 | 32 => 170 | 33 => 171 | 35 => 131 | 34 => 172 | 36 => 173 | 37 => 174 | 38 => 175 | 39 => 176 | 40 => 177 | n => n, fun | 9 => 9 | 3 => 3 | 22 => 46 | 24 => 166 | 25 => 257 | 4 => 4 | 34 => 267 | 5 => 5 | 36 => 209 | 37 => 80 | 0 => 0 | 39 => 269 | 21 => 21 | 44 => 273 | 47 => 275 | 50 => 262 | 48 => 260 | 2 => 2 | 52 => 277 | 55 => 279 | 59 => 282 | 60 => 60 | 20 => 20 | 61 => 283 | 65 => 285 | 66 => 286 | 67 => 129 | n => n, fun | 0 => 0 | 1 => 1 | 2 => 2 | 3 => 3 | 4 => 4 | n => n⟩
theorem Tryz.laysPu14 : Go.Proofs.LaysPu.n14 Tryz.prog Tryz.laysPu14_ren := {
  mixed := by kernel_rfl
  f14 := Tryz.func152.trans (congrArg some (by kernel_rfl))
  f16 := Tryz.func156.trans (congrArg some (by kernel_rfl))
  f17 := Tryz.func157.trans (congrArg some (by kernel_rfl))
  f19 := Tryz.func158.trans (congrArg some (by kernel_rfl))
  f20 := Tryz.func159.trans (congrArg some (by kernel_rfl))
  f21 := Tryz.func160.trans (congrArg some (by kernel_rfl))
  f22 := Tryz.func161.trans (congrArg some (by kernel_rfl))
  f23 := Tryz.func162.trans (congrArg some (by kernel_rfl))
  f24 := Tryz.func163.trans (congrArg some (by kernel_rfl))
  f25 := Tryz.func164.trans (congrArg some (by kernel_rfl))
  f26 := Tryz.func144.trans (congrArg some (by kernel_rfl))
  f27 := Tryz.func165.trans (congrArg some (by kernel_rfl))
  f28 := Tryz.func166.trans (congrArg some (by kernel_rfl))
  f29 := Tryz.func167.trans (congrArg some (by kernel_rfl))
  f30 := Tryz.func168.trans (congrArg some (by kernel_rfl))
  f31 := Tryz.func169.trans (congrArg some (by kernel_rfl))
  f32 := Tryz.func170.trans (congrArg some (by kernel_rfl))
  f33 := Tryz.func171.trans (congrArg some (by kernel_rfl))
  f34 := Tryz.func172.trans (congrArg some (by kernel_rfl))
  f35 := Tryz.func131.trans (congrArg some (by kernel_rfl))
  f36 := Tryz.func173.trans (congrArg some (by kernel_rfl))
  f37 := Tryz.func174.trans (congrArg some (by kernel_rfl))
  f38 := Tryz.func175.trans (congrArg some (by kernel_rfl))
  f39 := Tryz.func176.trans (congrArg some (by kernel_rfl))
  f40 := Tryz.func177.trans (congrArg some (by kernel_rfl))
  t0 := Tryz.underlying0
  a0 := Tryz.isAgg0
  z0 := Tryz.sizeOf0
  v0 := Tryz.zeroValue0
  i0 := by kernel_rfl
  t2 := Tryz.underlying2
  a2 := Tryz.isAgg2
  z2 := Tryz.sizeOf2
  v2 := Tryz.zeroValue2
  i2 := by kernel_rfl
  t3 := Tryz.underlying3
  a3 := Tryz.isAgg3
  z3 := Tryz.sizeOf3
  v3 := Tryz.zeroValue3
  i3 := by kernel_rfl
  t4 := Tryz.underlying4
  a4 := Tryz.isAgg4
  z4 := Tryz.sizeOf4
  v4 := Tryz.zeroValue4
  i4 := by kernel_rfl
  t5 := Tryz.underlying5
  a5 := Tryz.isAgg5
  z5 := Tryz.sizeOf5
  v5 := Tryz.zeroValue5
  i5 := by kernel_rfl
  t9 := Tryz.underlying9
  a9 := Tryz.isAgg9
  z9 := Tryz.sizeOf9
  v9 := Tryz.zeroValue9
  i9 := by kernel_rfl
  t20 := Tryz.underlying20
  a20 := Tryz.isAgg20
  z20 := Tryz.sizeOf20
  v20 := Tryz.zeroValue20
  i20 := by kernel_rfl
  t21 := Tryz.underlying21
  a21 := Tryz.isAgg21
  z21 := Tryz.sizeOf21
  v21 := Tryz.zeroValue21
  i21 := by kernel_rfl
  t22 := Tryz.underlying46
  a22 := Tryz.isAgg46
  z22 := Tryz.sizeOf46
  v22 := Tryz.zeroValue46
  i22 := by kernel_rfl
  t24 := Tryz.underlying166
  a24 := Tryz.isAgg166
  z24 := Tryz.sizeOf166
  v24 := Tryz.zeroValue166
  i24 := by kernel_rfl
  t25 := Tryz.underlying257
  a25 := Tryz.isAgg257
  z25 := Tryz.sizeOf257
  v25 := Tryz.zeroValue257
  i25 := by kernel_rfl
  t34 := Tryz.underlying267
  a34 := Tryz.isAgg267
  z34 := Tryz.sizeOf267
  v34 := Tryz.zeroValue267
  i34 := by kernel_rfl
  c34 := by kernel_rfl
  t36 := Tryz.underlying209
  a36 := Tryz.isAgg209
  z36 := Tryz.sizeOf209
  v36 := Tryz.zeroValue209
  i36 := by kernel_rfl
  t37 := Tryz.underlying80
  a37 := Tryz.isAgg80
  z37 := Tryz.sizeOf80
  v37 := Tryz.zeroValue80
  i37 := by kernel_rfl
  t39 := Tryz.underlying269
  a39 := Tryz.isAgg269
  z39 := Tryz.sizeOf269
  v39 := Tryz.zeroValue269
  i39 := by kernel_rfl
  t44 := Tryz.underlying273
  a44 := Tryz.isAgg273
  z44 := Tryz.sizeOf273
  v44 := Tryz.zeroValue273
  i44 := by kernel_rfl
  t47 := Tryz.underlying275
  a47 := Tryz.isAgg275
  z47 := Tryz.sizeOf275
  v47 := Tryz.zeroValue275
  i47 := by kernel_rfl
  t48 := Tryz.underlying260
  a48 := Tryz.isAgg260
  z48 := Tryz.sizeOf260
  v48 := Tryz.zeroValue260
  i48 := by kernel_rfl
  t50 := Tryz.underlying262
  a50 := Tryz.isAgg262
  z50 := Tryz.sizeOf262
  v50 := Tryz.zeroValue262
  i50 := by kernel_rfl
  t52 := Tryz.underlying277
  a52 := Tryz.isAgg277
  z52 := Tryz.sizeOf277
  v52 := Tryz.zeroValue277
  i52 := by kernel_rfl
  t55 := Tryz.underlying279
  a55 := Tryz.isAgg279
  z55 := Tryz.sizeOf279
  v55 := Tryz.zeroValue279
  i55 := by kernel_rfl
  t59 := Tryz.underlying282
  a59 := Tryz.isAgg282
  z59 := Tryz.sizeOf282
  v59 := Tryz.zeroValue282
  i59 := by kernel_rfl
  t60 := Tryz.underlying60
  a60 := Tryz.isAgg60
  z60 := Tryz.sizeOf60
  v60 := Tryz.zeroValue60
  i60 := by kernel_rfl
  t61 := Tryz.underlying283
  a61 := Tryz.isAgg283
  z61 := Tryz.sizeOf283
  t65 := Tryz.underlying285
  a65 := Tryz.isAgg285
  z65 := Tryz.sizeOf285
  v65 := Tryz.zeroValue285
  i65 := by kernel_rfl
  t66 := Tryz.underlying286
  a66 := Tryz.isAgg286
  z66 := Tryz.sizeOf286
  v66 := Tryz.zeroValue286
  i66 := by kernel_rfl
  t67 := Tryz.underlying129
  a67 := Tryz.isAgg129
  z67 := Tryz.sizeOf129
  v67 := Tryz.zeroValue129
  i67 := by kernel_rfl
  g0 := by kernel_rfl
  m0 := by kernel_rfl
  g1 := by kernel_rfl
  m1 := by kernel_rfl
  g2 := by kernel_rfl
  m2 := by kernel_rfl
  g3 := by kernel_rfl
  m3 := by kernel_rfl
  g4 := by kernel_rfl
  m4 := by kernel_rfl }
open Go.RowKit in
/-- strconv.ParseUint(s, 10, 0), AT EVERY STRING THAT SPELLS A uint64 ('Lib.parseUintB 64 s.data.toList = .ok u'): u, AND NO ERROR. (LAID: no walk: one application.) -/
theorem Tryz.strconv_ParseUint_10_at0_ok (s : ByteArray) (hmax : s.size ≤ 9223372036854775806) (u : Nat) (h : Lib.parseUintB 64 s.data.toList = .ok u) (w : World) :
    Calls Tryz.prog 152 #[.string s, .int .i64 10, .int .i64 0] w fun e w' => e = .returned (.tuple #[.int .u64 u, .nilIface]) ∧ (w' = w ∨ w' = Lib.bytesWorld w 5 s) := Any.strconv_ParseUint_10_at0_ok Tryz.laysPu14 s hmax u h w
open Go.RowKit in
/-- strconv.ParseUint(s, 10, 0), AT EVERY STRING THAT IS NO ROW OF DECIMAL DIGITS (a sign is a fault): 0, AND AN ERROR THAT IS NOT nil: a *NumError in a new block N: {Func: "ParseUint", Num: s's bytes, Err: what the variable ErrSyntax holds}. Of what was there nothing has turned. (LAID: no walk: one application.) -/
theorem Tryz.strconv_ParseUint_10_at0_syntax (s : ByteArray) (hlim : s.size ≤ 281474976710656) (h : Lib.parseUintB 64 s.data.toList = Lib.NumEnd.syntax) (ev : Value) (w : World) (hv : w.cell? ⟨0, 0, none⟩ = some ev) (hev : ev = .nilIface ∨ ∃ te pe, ev = .iface te pe) :
    Calls Tryz.prog 152 #[.string s, .int .i64 10, .int .i64 0] w fun e w' => ∃ N, e = .returned (.tuple #[.int .u64 0, .iface 269 (.pointer (some ⟨N, 0, none⟩))]) ∧ w.heap.size ≤ N ∧ w'.heap[N]? = some (.cells #[.string ⟨#[80, 97, 114, 115, 101, 85, 105, 110, 116]⟩, .string s, ev] 273 (0, 0)) ∧ Below w.heap.size w w' := Any.strconv_ParseUint_10_at0_syntax Tryz.laysPu14 s hlim h ev w hv hev
open Go.RowKit in
/-- strconv.ParseUint(s, 10, 0), AT EVERY NUMERAL THAT NO uint64 HOLDS: THE GREATEST uint64, AND AN ERROR THAT IS NOT nil: a *NumError in a new block N: {Func: "ParseUint", Num: s's bytes, Err: what the variable ErrRange holds}. Of what was there nothing has turned. (LAID: no walk: one application.) -/
theorem Tryz.strconv_ParseUint_10_at0_range (s : ByteArray) (hlim : s.size ≤ 281474976710656) (h : Lib.parseUintB 64 s.data.toList = .range) (ev : Value) (w : World) (hv : w.cell? ⟨1, 0, none⟩ = some ev) (hev : ev = .nilIface ∨ ∃ te pe, ev = .iface te pe) :
    Calls Tryz.prog 152 #[.string s, .int .i64 10, .int .i64 0] w fun e w' => ∃ N, e = .returned (.tuple #[.int .u64 18446744073709551615, .iface 269 (.pointer (some ⟨N, 0, none⟩))]) ∧ w.heap.size ≤ N ∧ w'.heap[N]? = some (.cells #[.string ⟨#[80, 97, 114, 115, 101, 85, 105, 110, 116]⟩, .string s, ev] 273 (0, 0)) ∧ Below w.heap.size w w' := Any.strconv_ParseUint_10_at0_range Tryz.laysPu14 s hlim h ev w hv hev
open Go.RowKit in
/-- strconv.ParseUint(s, 10, 64), AT EVERY STRING THAT SPELLS A uint64 ('Lib.parseUintB 64 s.data.toList = .ok u'): u, AND NO ERROR. (LAID: no walk: one application.) -/
theorem Tryz.strconv_ParseUint_10_at64_ok (s : ByteArray) (hmax : s.size ≤ 9223372036854775806) (u : Nat) (h : Lib.parseUintB 64 s.data.toList = .ok u) (w : World) :
    Calls Tryz.prog 152 #[.string s, .int .i64 10, .int .i64 64] w fun e w' => e = .returned (.tuple #[.int .u64 u, .nilIface]) ∧ (w' = w ∨ w' = Lib.bytesWorld w 5 s) := Any.strconv_ParseUint_10_at64_ok Tryz.laysPu14 s hmax u h w
open Go.RowKit in
/-- strconv.ParseUint(s, 10, 64), AT EVERY STRING THAT IS NO ROW OF DECIMAL DIGITS (a sign is a fault): 0, AND AN ERROR THAT IS NOT nil: a *NumError in a new block N: {Func: "ParseUint", Num: s's bytes, Err: what the variable ErrSyntax holds}. Of what was there nothing has turned. (LAID: no walk: one application.) -/
theorem Tryz.strconv_ParseUint_10_at64_syntax (s : ByteArray) (hlim : s.size ≤ 281474976710656) (h : Lib.parseUintB 64 s.data.toList = Lib.NumEnd.syntax) (ev : Value) (w : World) (hv : w.cell? ⟨0, 0, none⟩ = some ev) (hev : ev = .nilIface ∨ ∃ te pe, ev = .iface te pe) :
    Calls Tryz.prog 152 #[.string s, .int .i64 10, .int .i64 64] w fun e w' => ∃ N, e = .returned (.tuple #[.int .u64 0, .iface 269 (.pointer (some ⟨N, 0, none⟩))]) ∧ w.heap.size ≤ N ∧ w'.heap[N]? = some (.cells #[.string ⟨#[80, 97, 114, 115, 101, 85, 105, 110, 116]⟩, .string s, ev] 273 (0, 0)) ∧ Below w.heap.size w w' := Any.strconv_ParseUint_10_at64_syntax Tryz.laysPu14 s hlim h ev w hv hev
open Go.RowKit in
/-- strconv.ParseUint(s, 10, 64), AT EVERY NUMERAL THAT NO uint64 HOLDS: THE GREATEST uint64, AND AN ERROR THAT IS NOT nil: a *NumError in a new block N: {Func: "ParseUint", Num: s's bytes, Err: what the variable ErrRange holds}. Of what was there nothing has turned. (LAID: no walk: one application.) -/
theorem Tryz.strconv_ParseUint_10_at64_range (s : ByteArray) (hlim : s.size ≤ 281474976710656) (h : Lib.parseUintB 64 s.data.toList = .range) (ev : Value) (w : World) (hv : w.cell? ⟨1, 0, none⟩ = some ev) (hev : ev = .nilIface ∨ ∃ te pe, ev = .iface te pe) :
    Calls Tryz.prog 152 #[.string s, .int .i64 10, .int .i64 64] w fun e w' => ∃ N, e = .returned (.tuple #[.int .u64 18446744073709551615, .iface 269 (.pointer (some ⟨N, 0, none⟩))]) ∧ w.heap.size ≤ N ∧ w'.heap[N]? = some (.cells #[.string ⟨#[80, 97, 114, 115, 101, 85, 105, 110, 116]⟩, .string s, ev] 273 (0, 0)) ∧ Below w.heap.size w w' := Any.strconv_ParseUint_10_at64_range Tryz.laysPu14 s hlim h ev w hv hev
open Go.RowKit in
/-- strconv.ParseUint(s, 10, 32), AT EVERY STRING THAT SPELLS A uint32 ('Lib.parseUintB 32 s.data.toList = .ok u'): u, AND NO ERROR. (LAID: no walk: one application.) -/
theorem Tryz.strconv_ParseUint_10_at32_ok (s : ByteArray) (hmax : s.size ≤ 9223372036854775806) (u : Nat) (h : Lib.parseUintB 32 s.data.toList = .ok u) (w : World) :
    Calls Tryz.prog 152 #[.string s, .int .i64 10, .int .i64 32] w fun e w' => e = .returned (.tuple #[.int .u64 u, .nilIface]) ∧ (w' = w ∨ w' = Lib.bytesWorld w 5 s) := Any.strconv_ParseUint_10_at32_ok Tryz.laysPu14 s hmax u h w
open Go.RowKit in
/-- strconv.ParseUint(s, 10, 32), AT EVERY STRING THAT IS NO ROW OF DECIMAL DIGITS (a sign is a fault): 0, AND AN ERROR THAT IS NOT nil: a *NumError in a new block N: {Func: "ParseUint", Num: s's bytes, Err: what the variable ErrSyntax holds}. Of what was there nothing has turned. (LAID: no walk: one application.) -/
theorem Tryz.strconv_ParseUint_10_at32_syntax (s : ByteArray) (hlim : s.size ≤ 281474976710656) (h : Lib.parseUintB 32 s.data.toList = Lib.NumEnd.syntax) (ev : Value) (w : World) (hv : w.cell? ⟨0, 0, none⟩ = some ev) (hev : ev = .nilIface ∨ ∃ te pe, ev = .iface te pe) :
    Calls Tryz.prog 152 #[.string s, .int .i64 10, .int .i64 32] w fun e w' => ∃ N, e = .returned (.tuple #[.int .u64 0, .iface 269 (.pointer (some ⟨N, 0, none⟩))]) ∧ w.heap.size ≤ N ∧ w'.heap[N]? = some (.cells #[.string ⟨#[80, 97, 114, 115, 101, 85, 105, 110, 116]⟩, .string s, ev] 273 (0, 0)) ∧ Below w.heap.size w w' := Any.strconv_ParseUint_10_at32_syntax Tryz.laysPu14 s hlim h ev w hv hev
open Go.RowKit in
/-- strconv.ParseUint(s, 10, 32), AT EVERY NUMERAL THAT NO uint32 HOLDS: THE GREATEST uint32, AND AN ERROR THAT IS NOT nil: a *NumError in a new block N: {Func: "ParseUint", Num: s's bytes, Err: what the variable ErrRange holds}. Of what was there nothing has turned. (LAID: no walk: one application.) -/
theorem Tryz.strconv_ParseUint_10_at32_range (s : ByteArray) (hlim : s.size ≤ 281474976710656) (h : Lib.parseUintB 32 s.data.toList = .range) (ev : Value) (w : World) (hv : w.cell? ⟨1, 0, none⟩ = some ev) (hev : ev = .nilIface ∨ ∃ te pe, ev = .iface te pe) :
    Calls Tryz.prog 152 #[.string s, .int .i64 10, .int .i64 32] w fun e w' => ∃ N, e = .returned (.tuple #[.int .u64 4294967295, .iface 269 (.pointer (some ⟨N, 0, none⟩))]) ∧ w.heap.size ≤ N ∧ w'.heap[N]? = some (.cells #[.string ⟨#[80, 97, 114, 115, 101, 85, 105, 110, 116]⟩, .string s, ev] 273 (0, 0)) ∧ Below w.heap.size w w' := Any.strconv_ParseUint_10_at32_range Tryz.laysPu14 s hlim h ev w hv hev
open Go.RowKit in
/-- strconv.ParseUint(s, 10, 16), AT EVERY STRING THAT SPELLS A uint16 ('Lib.parseUintB 16 s.data.toList = .ok u'): u, AND NO ERROR. (LAID: no walk: one application.) -/
theorem Tryz.strconv_ParseUint_10_at16_ok (s : ByteArray) (hmax : s.size ≤ 9223372036854775806) (u : Nat) (h : Lib.parseUintB 16 s.data.toList = .ok u) (w : World) :
    Calls Tryz.prog 152 #[.string s, .int .i64 10, .int .i64 16] w fun e w' => e = .returned (.tuple #[.int .u64 u, .nilIface]) ∧ (w' = w ∨ w' = Lib.bytesWorld w 5 s) := Any.strconv_ParseUint_10_at16_ok Tryz.laysPu14 s hmax u h w
open Go.RowKit in
/-- strconv.ParseUint(s, 10, 16), AT EVERY STRING THAT IS NO ROW OF DECIMAL DIGITS (a sign is a fault): 0, AND AN ERROR THAT IS NOT nil: a *NumError in a new block N: {Func: "ParseUint", Num: s's bytes, Err: what the variable ErrSyntax holds}. Of what was there nothing has turned. (LAID: no walk: one application.) -/
theorem Tryz.strconv_ParseUint_10_at16_syntax (s : ByteArray) (hlim : s.size ≤ 281474976710656) (h : Lib.parseUintB 16 s.data.toList = Lib.NumEnd.syntax) (ev : Value) (w : World) (hv : w.cell? ⟨0, 0, none⟩ = some ev) (hev : ev = .nilIface ∨ ∃ te pe, ev = .iface te pe) :
    Calls Tryz.prog 152 #[.string s, .int .i64 10, .int .i64 16] w fun e w' => ∃ N, e = .returned (.tuple #[.int .u64 0, .iface 269 (.pointer (some ⟨N, 0, none⟩))]) ∧ w.heap.size ≤ N ∧ w'.heap[N]? = some (.cells #[.string ⟨#[80, 97, 114, 115, 101, 85, 105, 110, 116]⟩, .string s, ev] 273 (0, 0)) ∧ Below w.heap.size w w' := Any.strconv_ParseUint_10_at16_syntax Tryz.laysPu14 s hlim h ev w hv hev
open Go.RowKit in
/-- strconv.ParseUint(s, 10, 16), AT EVERY NUMERAL THAT NO uint16 HOLDS: THE GREATEST uint16, AND AN ERROR THAT IS NOT nil: a *NumError in a new block N: {Func: "ParseUint", Num: s's bytes, Err: what the variable ErrRange holds}. Of what was there nothing has turned. (LAID: no walk: one application.) -/
theorem Tryz.strconv_ParseUint_10_at16_range (s : ByteArray) (hlim : s.size ≤ 281474976710656) (h : Lib.parseUintB 16 s.data.toList = .range) (ev : Value) (w : World) (hv : w.cell? ⟨1, 0, none⟩ = some ev) (hev : ev = .nilIface ∨ ∃ te pe, ev = .iface te pe) :
    Calls Tryz.prog 152 #[.string s, .int .i64 10, .int .i64 16] w fun e w' => ∃ N, e = .returned (.tuple #[.int .u64 65535, .iface 269 (.pointer (some ⟨N, 0, none⟩))]) ∧ w.heap.size ≤ N ∧ w'.heap[N]? = some (.cells #[.string ⟨#[80, 97, 114, 115, 101, 85, 105, 110, 116]⟩, .string s, ev] 273 (0, 0)) ∧ Below w.heap.size w w' := Any.strconv_ParseUint_10_at16_range Tryz.laysPu14 s hlim h ev w hv hev
open Go.RowKit in
/-- strconv.ParseUint(s, 10, 8), AT EVERY STRING THAT SPELLS A uint8 ('Lib.parseUintB 8 s.data.toList = .ok u'): u, AND NO ERROR. (LAID: no walk: one application.) -/
theorem Tryz.strconv_ParseUint_10_at8_ok (s : ByteArray) (hmax : s.size ≤ 9223372036854775806) (u : Nat) (h : Lib.parseUintB 8 s.data.toList = .ok u) (w : World) :
    Calls Tryz.prog 152 #[.string s, .int .i64 10, .int .i64 8] w fun e w' => e = .returned (.tuple #[.int .u64 u, .nilIface]) ∧ (w' = w ∨ w' = Lib.bytesWorld w 5 s) := Any.strconv_ParseUint_10_at8_ok Tryz.laysPu14 s hmax u h w
open Go.RowKit in
/-- strconv.ParseUint(s, 10, 8), AT EVERY STRING THAT IS NO ROW OF DECIMAL DIGITS (a sign is a fault): 0, AND AN ERROR THAT IS NOT nil: a *NumError in a new block N: {Func: "ParseUint", Num: s's bytes, Err: what the variable ErrSyntax holds}. Of what was there nothing has turned. (LAID: no walk: one application.) -/
theorem Tryz.strconv_ParseUint_10_at8_syntax (s : ByteArray) (hlim : s.size ≤ 281474976710656) (h : Lib.parseUintB 8 s.data.toList = Lib.NumEnd.syntax) (ev : Value) (w : World) (hv : w.cell? ⟨0, 0, none⟩ = some ev) (hev : ev = .nilIface ∨ ∃ te pe, ev = .iface te pe) :
    Calls Tryz.prog 152 #[.string s, .int .i64 10, .int .i64 8] w fun e w' => ∃ N, e = .returned (.tuple #[.int .u64 0, .iface 269 (.pointer (some ⟨N, 0, none⟩))]) ∧ w.heap.size ≤ N ∧ w'.heap[N]? = some (.cells #[.string ⟨#[80, 97, 114, 115, 101, 85, 105, 110, 116]⟩, .string s, ev] 273 (0, 0)) ∧ Below w.heap.size w w' := Any.strconv_ParseUint_10_at8_syntax Tryz.laysPu14 s hlim h ev w hv hev
open Go.RowKit in
/-- strconv.ParseUint(s, 10, 8), AT EVERY NUMERAL THAT NO uint8 HOLDS: THE GREATEST uint8, AND AN ERROR THAT IS NOT nil: a *NumError in a new block N: {Func: "ParseUint", Num: s's bytes, Err: what the variable ErrRange holds}. Of what was there nothing has turned. (LAID: no walk: one application.) -/
theorem Tryz.strconv_ParseUint_10_at8_range (s : ByteArray) (hlim : s.size ≤ 281474976710656) (h : Lib.parseUintB 8 s.data.toList = .range) (ev : Value) (w : World) (hv : w.cell? ⟨1, 0, none⟩ = some ev) (hev : ev = .nilIface ∨ ∃ te pe, ev = .iface te pe) :
    Calls Tryz.prog 152 #[.string s, .int .i64 10, .int .i64 8] w fun e w' => ∃ N, e = .returned (.tuple #[.int .u64 255, .iface 269 (.pointer (some ⟨N, 0, none⟩))]) ∧ w.heap.size ≤ N ∧ w'.heap[N]? = some (.cells #[.string ⟨#[80, 97, 114, 115, 101, 85, 105, 110, 116]⟩, .string s, ev] 273 (0, 0)) ∧ Below w.heap.size w w' := Any.strconv_ParseUint_10_at8_range Tryz.laysPu14 s hlim h ev w hv hev
open Go.RowKit in
theorem Tryz.strconv_ParseUint_10_at0_syntax_var (s : ByteArray) (hlim : s.size ≤ 281474976710656) (h : Lib.parseUintB 64 s.data.toList = Lib.NumEnd.syntax) (tp : TypeId) (p : Value) (w : World) (hvar : w.var? Tryz.prog "strconv.ErrSyntax" = some #[.iface tp p]) :
    Calls Tryz.prog 152 #[.string s, .int .i64 10, .int .i64 0] w fun e w' => ∃ N, e = .returned (.tuple #[.int .u64 0, .iface 269 (.pointer (some ⟨N, 0, none⟩))]) ∧ w.heap.size ≤ N ∧ w'.heap[N]? = some (.cells #[.string ⟨#[80, 97, 114, 115, 101, 85, 105, 110, 116]⟩, .string s, .iface tp p] 273 (0, 0)) ∧ Below w.heap.size w w' := Any.strconv_ParseUint_10_at0_syntax_var Tryz.laysPu14 s hlim h tp p w hvar
open Go.RowKit in
theorem Tryz.strconv_ParseUint_10_at0_range_var (s : ByteArray) (hlim : s.size ≤ 281474976710656) (h : Lib.parseUintB 64 s.data.toList = .range) (tp : TypeId) (p : Value) (w : World) (hvar : w.var? Tryz.prog "strconv.ErrRange" = some #[.iface tp p]) :
    Calls Tryz.prog 152 #[.string s, .int .i64 10, .int .i64 0] w fun e w' => ∃ N, e = .returned (.tuple #[.int .u64 18446744073709551615, .iface 269 (.pointer (some ⟨N, 0, none⟩))]) ∧ w.heap.size ≤ N ∧ w'.heap[N]? = some (.cells #[.string ⟨#[80, 97, 114, 115, 101, 85, 105, 110, 116]⟩, .string s, .iface tp p] 273 (0, 0)) ∧ Below w.heap.size w w' := Any.strconv_ParseUint_10_at0_range_var Tryz.laysPu14 s hlim h tp p w hvar
open Go.RowKit in
theorem Tryz.strconv_ParseUint_10_at64_syntax_var (s : ByteArray) (hlim : s.size ≤ 281474976710656) (h : Lib.parseUintB 64 s.data.toList = Lib.NumEnd.syntax) (tp : TypeId) (p : Value) (w : World) (hvar : w.var? Tryz.prog "strconv.ErrSyntax" = some #[.iface tp p]) :
    Calls Tryz.prog 152 #[.string s, .int .i64 10, .int .i64 64] w fun e w' => ∃ N, e = .returned (.tuple #[.int .u64 0, .iface 269 (.pointer (some ⟨N, 0, none⟩))]) ∧ w.heap.size ≤ N ∧ w'.heap[N]? = some (.cells #[.string ⟨#[80, 97, 114, 115, 101, 85, 105, 110, 116]⟩, .string s, .iface tp p] 273 (0, 0)) ∧ Below w.heap.size w w' := Any.strconv_ParseUint_10_at64_syntax_var Tryz.laysPu14 s hlim h tp p w hvar
open Go.RowKit in
theorem Tryz.strconv_ParseUint_10_at64_range_var (s : ByteArray) (hlim : s.size ≤ 281474976710656) (h : Lib.parseUintB 64 s.data.toList = .range) (tp : TypeId) (p : Value) (w : World) (hvar : w.var? Tryz.prog "strconv.ErrRange" = some #[.iface tp p]) :
    Calls Tryz.prog 152 #[.string s, .int .i64 10, .int .i64 64] w fun e w' => ∃ N, e = .returned (.tuple #[.int .u64 18446744073709551615, .iface 269 (.pointer (some ⟨N, 0, none⟩))]) ∧ w.heap.size ≤ N ∧ w'.heap[N]? = some (.cells #[.string ⟨#[80, 97, 114, 115, 101, 85, 105, 110, 116]⟩, .string s, .iface tp p] 273 (0, 0)) ∧ Below w.heap.size w w' := Any.strconv_ParseUint_10_at64_range_var Tryz.laysPu14 s hlim h tp p w hvar
open Go.RowKit in
theorem Tryz.strconv_ParseUint_10_at32_syntax_var (s : ByteArray) (hlim : s.size ≤ 281474976710656) (h : Lib.parseUintB 32 s.data.toList = Lib.NumEnd.syntax) (tp : TypeId) (p : Value) (w : World) (hvar : w.var? Tryz.prog "strconv.ErrSyntax" = some #[.iface tp p]) :
    Calls Tryz.prog 152 #[.string s, .int .i64 10, .int .i64 32] w fun e w' => ∃ N, e = .returned (.tuple #[.int .u64 0, .iface 269 (.pointer (some ⟨N, 0, none⟩))]) ∧ w.heap.size ≤ N ∧ w'.heap[N]? = some (.cells #[.string ⟨#[80, 97, 114, 115, 101, 85, 105, 110, 116]⟩, .string s, .iface tp p] 273 (0, 0)) ∧ Below w.heap.size w w' := Any.strconv_ParseUint_10_at32_syntax_var Tryz.laysPu14 s hlim h tp p w hvar
open Go.RowKit in
theorem Tryz.strconv_ParseUint_10_at32_range_var (s : ByteArray) (hlim : s.size ≤ 281474976710656) (h : Lib.parseUintB 32 s.data.toList = .range) (tp : TypeId) (p : Value) (w : World) (hvar : w.var? Tryz.prog "strconv.ErrRange" = some #[.iface tp p]) :
    Calls Tryz.prog 152 #[.string s, .int .i64 10, .int .i64 32] w fun e w' => ∃ N, e = .returned (.tuple #[.int .u64 4294967295, .iface 269 (.pointer (some ⟨N, 0, none⟩))]) ∧ w.heap.size ≤ N ∧ w'.heap[N]? = some (.cells #[.string ⟨#[80, 97, 114, 115, 101, 85, 105, 110, 116]⟩, .string s, .iface tp p] 273 (0, 0)) ∧ Below w.heap.size w w' := Any.strconv_ParseUint_10_at32_range_var Tryz.laysPu14 s hlim h tp p w hvar
open Go.RowKit in
theorem Tryz.strconv_ParseUint_10_at16_syntax_var (s : ByteArray) (hlim : s.size ≤ 281474976710656) (h : Lib.parseUintB 16 s.data.toList = Lib.NumEnd.syntax) (tp : TypeId) (p : Value) (w : World) (hvar : w.var? Tryz.prog "strconv.ErrSyntax" = some #[.iface tp p]) :
    Calls Tryz.prog 152 #[.string s, .int .i64 10, .int .i64 16] w fun e w' => ∃ N, e = .returned (.tuple #[.int .u64 0, .iface 269 (.pointer (some ⟨N, 0, none⟩))]) ∧ w.heap.size ≤ N ∧ w'.heap[N]? = some (.cells #[.string ⟨#[80, 97, 114, 115, 101, 85, 105, 110, 116]⟩, .string s, .iface tp p] 273 (0, 0)) ∧ Below w.heap.size w w' := Any.strconv_ParseUint_10_at16_syntax_var Tryz.laysPu14 s hlim h tp p w hvar
open Go.RowKit in
theorem Tryz.strconv_ParseUint_10_at16_range_var (s : ByteArray) (hlim : s.size ≤ 281474976710656) (h : Lib.parseUintB 16 s.data.toList = .range) (tp : TypeId) (p : Value) (w : World) (hvar : w.var? Tryz.prog "strconv.ErrRange" = some #[.iface tp p]) :
    Calls Tryz.prog 152 #[.string s, .int .i64 10, .int .i64 16] w fun e w' => ∃ N, e = .returned (.tuple #[.int .u64 65535, .iface 269 (.pointer (some ⟨N, 0, none⟩))]) ∧ w.heap.size ≤ N ∧ w'.heap[N]? = some (.cells #[.string ⟨#[80, 97, 114, 115, 101, 85, 105, 110, 116]⟩, .string s, .iface tp p] 273 (0, 0)) ∧ Below w.heap.size w w' := Any.strconv_ParseUint_10_at16_range_var Tryz.laysPu14 s hlim h tp p w hvar
open Go.RowKit in
theorem Tryz.strconv_ParseUint_10_at8_syntax_var (s : ByteArray) (hlim : s.size ≤ 281474976710656) (h : Lib.parseUintB 8 s.data.toList = Lib.NumEnd.syntax) (tp : TypeId) (p : Value) (w : World) (hvar : w.var? Tryz.prog "strconv.ErrSyntax" = some #[.iface tp p]) :
    Calls Tryz.prog 152 #[.string s, .int .i64 10, .int .i64 8] w fun e w' => ∃ N, e = .returned (.tuple #[.int .u64 0, .iface 269 (.pointer (some ⟨N, 0, none⟩))]) ∧ w.heap.size ≤ N ∧ w'.heap[N]? = some (.cells #[.string ⟨#[80, 97, 114, 115, 101, 85, 105, 110, 116]⟩, .string s, .iface tp p] 273 (0, 0)) ∧ Below w.heap.size w w' := Any.strconv_ParseUint_10_at8_syntax_var Tryz.laysPu14 s hlim h tp p w hvar
open Go.RowKit in
theorem Tryz.strconv_ParseUint_10_at8_range_var (s : ByteArray) (hlim : s.size ≤ 281474976710656) (h : Lib.parseUintB 8 s.data.toList = .range) (tp : TypeId) (p : Value) (w : World) (hvar : w.var? Tryz.prog "strconv.ErrRange" = some #[.iface tp p]) :
    Calls Tryz.prog 152 #[.string s, .int .i64 10, .int .i64 8] w fun e w' => ∃ N, e = .returned (.tuple #[.int .u64 255, .iface 269 (.pointer (some ⟨N, 0, none⟩))]) ∧ w.heap.size ≤ N ∧ w'.heap[N]? = some (.cells #[.string ⟨#[80, 97, 114, 115, 101, 85, 105, 110, 116]⟩, .string s, .iface tp p] 273 (0, 0)) ∧ Below w.heap.size w w' := Any.strconv_ParseUint_10_at8_range_var Tryz.laysPu14 s hlim h tp p w hvar
def Tryz.laysGt33_ren : Go.Shelf.Ren := ⟨fun | 33 => 132 | n => n, fun | 45 => 206 | 3 => 3 | 4 => 4 | 0 => 0 | 43 => 207 | 26 => 232 | 38 => 247 | n => n, fun | n => n⟩
theorem Tryz.laysGt33 : Go.Proofs.LaysGt.n33 Tryz.prog Tryz.laysGt33_ren := {
  mixed := by kernel_rfl
  f33 := Tryz.func132.trans (congrArg some (by kernel_rfl))
  t0 := Tryz.underlying0
  a0 := Tryz.isAgg0
  z0 := Tryz.sizeOf0
  v0 := Tryz.zeroValue0
  i0 := by kernel_rfl
  t3 := Tryz.underlying3
  a3 := Tryz.isAgg3
  z3 := Tryz.sizeOf3
  v3 := Tryz.zeroValue3
  i3 := by kernel_rfl
  t4 := Tryz.underlying4
  a4 := Tryz.isAgg4
  z4 := Tryz.sizeOf4
  v4 := Tryz.zeroValue4
  i4 := by kernel_rfl
  t26 := Tryz.underlying232
  a26 := Tryz.isAgg232
  z26 := Tryz.sizeOf232
  v26 := Tryz.zeroValue232
  i26 := by kernel_rfl
  t38 := Tryz.underlying247
  a38 := Tryz.isAgg247
  z38 := Tryz.sizeOf247
  v38 := Tryz.zeroValue247
  i38 := by kernel_rfl
  t43 := Tryz.underlying207
  a43 := Tryz.isAgg207
  z43 := Tryz.sizeOf207
  v43 := Tryz.zeroValue207
  i43 := by kernel_rfl
  t45 := Tryz.underlying206
  a45 := Tryz.isAgg206
  z45 := Tryz.sizeOf206
  v45 := Tryz.zeroValue206
  i45 := by kernel_rfl }
open Go.RowKit Go.Lib Go.Sort in
theorem Tryz.insertionSort_iface {α : Type} [Inhabited α] (T : TypeId) (rv : Value) (gl gs : Nat) (rL : Reaches Tryz.prog T rv "Less" gl) (rS : Reaches Tryz.prog T rv "Swap" gs) (enc : α → Value) (lt : α → α → Bool) (blk off a b : Nat) (d : Array α) (w : World) (hless : LessM Tryz.prog gl rv enc lt blk off d.size w) (hswap : SwapM Tryz.prog gs rv enc blk off d.size) (hH : Holds enc w blk off d) (hab : a ≤ b) (hb : b ≤ d.size) (hsz : d.size < 4611686018427387904) :
    Calls Tryz.prog 132 #[.iface T rv, .int .i64 a, .int .i64 b] w fun e w' =>
      e = .returned (.tuple #[]) ∧ ∃ n, w' = putRow enc (Sort.ahead w n) blk off (Sort.insertionSort lt d a b) := Any.insertionSort_iface Tryz.laysGt33 T rv gl gs rL rS enc lt blk off a b d w hless hswap hH hab hb hsz
open Go.RowKit Go.Lib Go.Sort in
/-- sort.insertionSort, from a world to a 'sortWorld' of it. (LAID: no walk: one application.) -/
theorem Tryz.insertionSort_iface_w {α : Type} [Inhabited α] (T : TypeId) (rv : Value) (gl gs : Nat) (rL : Reaches Tryz.prog T rv "Less" gl) (rS : Reaches Tryz.prog T rv "Swap" gs) (enc : α → Value) (lt : α → α → Bool) (blk off a b : Nat) (d : Array α) (w : World) (hless : LessM Tryz.prog gl rv enc lt blk off d.size w) (hswap : SwapM Tryz.prog gs rv enc blk off d.size) (hH : Holds enc w blk off d) (hab : a ≤ b) (hb : b ≤ d.size) (hsz : d.size < 4611686018427387904) :
    Calls Tryz.prog 132 #[.iface T rv, .int .i64 a, .int .i64 b] w fun e w' => e = .returned (.tuple #[]) ∧ ∃ n os, w' = sortWorld enc w blk off n (Sort.insertionSort lt d a b) os := Any.insertionSort_iface_w Tryz.laysGt33 T rv gl gs rL rS enc lt blk off a b d w hless hswap hH hab hb hsz
def Tryz.laysGt37_ren : Go.Shelf.Ren := ⟨fun | 37 => 136 | n => n, fun | 45 => 206 | 3 => 3 | 4 => 4 | 0 => 0 | 43 => 207 | 26 => 232 | 38 => 247 | n => n, fun | n => n⟩
theorem Tryz.laysGt37 : Go.Proofs.LaysGt.n37 Tryz.prog Tryz.laysGt37_ren := {
  mixed := by kernel_rfl
  f37 := Tryz.func136.trans (congrArg some (by kernel_rfl))
  t0 := Tryz.underlying0
  a0 := Tryz.isAgg0
  z0 := Tryz.sizeOf0
  v0 := Tryz.zeroValue0
  i0 := by kernel_rfl
  t3 := Tryz.underlying3
  a3 := Tryz.isAgg3
  z3 := Tryz.sizeOf3
  v3 := Tryz.zeroValue3
  i3 := by kernel_rfl
  t4 := Tryz.underlying4
  a4 := Tryz.isAgg4
  z4 := Tryz.sizeOf4
  v4 := Tryz.zeroValue4
  i4 := by kernel_rfl
  t26 := Tryz.underlying232
  a26 := Tryz.isAgg232
  z26 := Tryz.sizeOf232
  v26 := Tryz.zeroValue232
  i26 := by kernel_rfl
  t38 := Tryz.underlying247
  a38 := Tryz.isAgg247
  z38 := Tryz.sizeOf247
  v38 := Tryz.zeroValue247
  i38 := by kernel_rfl
  t43 := Tryz.underlying207
  a43 := Tryz.isAgg207
  z43 := Tryz.sizeOf207
  v43 := Tryz.zeroValue207
  i43 := by kernel_rfl
  t45 := Tryz.underlying206
  a45 := Tryz.isAgg206
  z45 := Tryz.sizeOf206
  v45 := Tryz.zeroValue206
  i45 := by kernel_rfl }
open Go.RowKit Go.Lib Go.Sort in
theorem Tryz.reverseRange_iface {α : Type} [Inhabited α] (T : TypeId) (rv : Value) (gs : Nat) (rS : Reaches Tryz.prog T rv "Swap" gs) (enc : α → Value) (blk off a b : Nat) (d : Array α) (w : World) (hswap : SwapM Tryz.prog gs rv enc blk off d.size) (hH : Holds enc w blk off d) (hab : a ≤ b) (hb : b ≤ d.size) (hsz : d.size < 4611686018427387904) :
    Calls Tryz.prog 136 #[.iface T rv, .int .i64 a, .int .i64 b] w fun e w' => e = .returned (.tuple #[]) ∧ ∃ n, w' = putRow enc (Sort.ahead w n) blk off (reverseRange d a b) := Any.reverseRange_iface Tryz.laysGt37 T rv gs rS enc blk off a b d w hswap hH hab hb hsz
open Go.RowKit Go.Lib Go.Sort in
theorem Tryz.reverseRange_iface_w {α : Type} [Inhabited α] (T : TypeId) (rv : Value) (gs : Nat) (rS : Reaches Tryz.prog T rv "Swap" gs) (enc : α → Value) (blk off a b : Nat) (d : Array α) (w : World) (hswap : SwapM Tryz.prog gs rv enc blk off d.size) (hH : Holds enc w blk off d) (hab : a ≤ b) (hb : b ≤ d.size) (hsz : d.size < 4611686018427387904) :
    Calls Tryz.prog 136 #[.iface T rv, .int .i64 a, .int .i64 b] w fun e w' => e = .returned (.tuple #[]) ∧ ∃ n os, w' = sortWorld enc w blk off n (reverseRange d a b) os := Any.reverseRange_iface_w Tryz.laysGt37 T rv gs rS enc blk off a b d w hswap hH hab hb hsz
def Tryz.laysGt50_ren : Go.Shelf.Ren := ⟨fun | 50 => 154 | n => n, fun | 45 => 206 | 3 => 3 | 71 => 252 | 4 => 4 | 0 => 0 | 43 => 207 | 26 => 232 | 38 => 247 | n => n, fun | n => n⟩
theorem Tryz.laysGt50 : Go.Proofs.LaysGt.n50 Tryz.prog Tryz.laysGt50_ren := {
  mixed := by kernel_rfl
  f50 := Tryz.func154.trans (congrArg some (by kernel_rfl))
  t0 := Tryz.underlying0
  a0 := Tryz.isAgg0
  z0 := Tryz.sizeOf0
  v0 := Tryz.zeroValue0
  i0 := by kernel_rfl
  t3 := Tryz.underlying3
  a3 := Tryz.isAgg3
  z3 := Tryz.sizeOf3
  v3 := Tryz.zeroValue3
  i3 := by kernel_rfl
  t4 := Tryz.underlying4
  a4 := Tryz.isAgg4
  z4 := Tryz.sizeOf4
  v4 := Tryz.zeroValue4
  i4 := by kernel_rfl
  t26 := Tryz.underlying232
  a26 := Tryz.isAgg232
  z26 := Tryz.sizeOf232
  v26 := Tryz.zeroValue232
  i26 := by kernel_rfl
  t38 := Tryz.underlying247
  a38 := Tryz.isAgg247
  z38 := Tryz.sizeOf247
  v38 := Tryz.zeroValue247
  i38 := by kernel_rfl
  t43 := Tryz.underlying207
  a43 := Tryz.isAgg207
  z43 := Tryz.sizeOf207
  v43 := Tryz.zeroValue207
  i43 := by kernel_rfl
  t45 := Tryz.underlying206
  a45 := Tryz.isAgg206
  z45 := Tryz.sizeOf206
  v45 := Tryz.zeroValue206
  i45 := by kernel_rfl
  t71 := Tryz.underlying252
  a71 := Tryz.isAgg252
  z71 := Tryz.sizeOf252
  v71 := Tryz.zeroValue252
  i71 := by kernel_rfl }
open Go.RowKit Go.Lib Go.Sort in
theorem Tryz.order2_iface {α : Type} [Inhabited α] (T : TypeId) (rv : Value) (gl : Nat) (rL : Reaches Tryz.prog T rv "Less" gl) (enc : α → Value) (lt : α → α → Bool) (blk off : Nat) (w0 W : World) (d : Array α) (a b cb co s : Nat) (hL : LessM Tryz.prog gl rv enc lt blk off d.size w0) (hW : SW enc w0 blk off d W) (ha : a < d.size) (hb : b < d.size) (hS : Holds (Value.int .i64) W cb co (one s)) (hs : s < 4611686018427387904) :
    Calls Tryz.prog 154 #[.iface T rv, .int .i64 a, .int .i64 b, .pointer (some ⟨cb, co, none⟩)] W fun e w' =>
      e = .returned (.tuple #[.int .i64 (order2 lt d a b s).1, .int .i64 (order2 lt d a b s).2.1]) ∧ ∃ n os, w' = sortWorld (Value.int .i64) W cb co n (one (order2 lt d a b s).2.2) os := Any.order2_iface Tryz.laysGt50 T rv gl rL enc lt blk off w0 W d a b cb co s hL hW ha hb hS hs
def Tryz.laysGt47_ren : Go.Shelf.Ren := ⟨fun | 47 => 149 | 50 => 154 | n => n, fun | 45 => 206 | 3 => 3 | 71 => 252 | 74 => 264 | 4 => 4 | 0 => 0 | 43 => 207 | 26 => 232 | 38 => 247 | n => n, fun | n => n⟩
theorem Tryz.laysGt47 : Go.Proofs.LaysGt.n47 Tryz.prog Tryz.laysGt47_ren := {
  mixed := by kernel_rfl
  f47 := Tryz.func149.trans (congrArg some (by kernel_rfl))
  f50 := Tryz.func154.trans (congrArg some (by kernel_rfl))
  t0 := Tryz.underlying0
  a0 := Tryz.isAgg0
  z0 := Tryz.sizeOf0
  v0 := Tryz.zeroValue0
  i0 := by kernel_rfl
  t3 := Tryz.underlying3
  a3 := Tryz.isAgg3
  z3 := Tryz.sizeOf3
  v3 := Tryz.zeroValue3
  i3 := by kernel_rfl
  t4 := Tryz.underlying4
  a4 := Tryz.isAgg4
  z4 := Tryz.sizeOf4
  v4 := Tryz.zeroValue4
  i4 := by kernel_rfl
  t26 := Tryz.underlying232
  a26 := Tryz.isAgg232
  z26 := Tryz.sizeOf232
  v26 := Tryz.zeroValue232
  i26 := by kernel_rfl
  t38 := Tryz.underlying247
  a38 := Tryz.isAgg247
  z38 := Tryz.sizeOf247
  v38 := Tryz.zeroValue247
  i38 := by kernel_rfl
  t43 := Tryz.underlying207
  a43 := Tryz.isAgg207
  z43 := Tryz.sizeOf207
  v43 := Tryz.zeroValue207
  i43 := by kernel_rfl
  t45 := Tryz.underlying206
  a45 := Tryz.isAgg206
  z45 := Tryz.sizeOf206
  v45 := Tryz.zeroValue206
  i45 := by kernel_rfl
  t71 := Tryz.underlying252
  a71 := Tryz.isAgg252
  z71 := Tryz.sizeOf252
  v71 := Tryz.zeroValue252
  i71 := by kernel_rfl
  t74 := Tryz.underlying264
  a74 := Tryz.isAgg264
  z74 := Tryz.sizeOf264
  v74 := Tryz.zeroValue264
  i74 := by kernel_rfl }
open Go.RowKit Go.Lib Go.Sort in
theorem Tryz.median_iface {α : Type} [Inhabited α] (T : TypeId) (rv : Value) (gl : Nat) (rL : Reaches Tryz.prog T rv "Less" gl) (enc : α → Value) (lt : α → α → Bool) (blk off : Nat) (w0 W : World) (d : Array α) (a b c cb co s : Nat) (hL : LessM Tryz.prog gl rv enc lt blk off d.size w0) (hW : SW enc w0 blk off d W) (ha : a < d.size) (hb : b < d.size) (hc : c < d.size) (hS : Holds (Value.int .i64) W cb co (one s)) (hcb0 : w0.heap.size ≤ cb) (hcb : cb < W.heap.size) (hs : s + 3 < 4611686018427387904) :
    Calls Tryz.prog 149 #[.iface T rv, .int .i64 a, .int .i64 b, .int .i64 c, .pointer (some ⟨cb, co, none⟩)] W fun e w' =>
      e = .returned (.int .i64 (median lt d a b c s).1) ∧ ∃ n os, w' = sortWorld (Value.int .i64) W cb co n (one (median lt d a b c s).2) os := Any.median_iface Tryz.laysGt47 T rv gl rL enc lt blk off w0 W d a b c cb co s hL hW ha hb hc hS hcb0 hcb hs
def Tryz.laysGt46_ren : Go.Shelf.Ren := ⟨fun | 46 => 148 | 47 => 149 | 50 => 154 | n => n, fun | 45 => 206 | 3 => 3 | 71 => 252 | 74 => 264 | 4 => 4 | 0 => 0 | 43 => 207 | 26 => 232 | 38 => 247 | n => n, fun | n => n⟩
theorem Tryz.laysGt46 : Go.Proofs.LaysGt.n46 Tryz.prog Tryz.laysGt46_ren := {
  mixed := by kernel_rfl
  f46 := Tryz.func148.trans (congrArg some (by kernel_rfl))
  f47 := Tryz.func149.trans (congrArg some (by kernel_rfl))
  f50 := Tryz.func154.trans (congrArg some (by kernel_rfl))
  t0 := Tryz.underlying0
  a0 := Tryz.isAgg0
  z0 := Tryz.sizeOf0
  v0 := Tryz.zeroValue0
  i0 := by kernel_rfl
  t3 := Tryz.underlying3
  a3 := Tryz.isAgg3
  z3 := Tryz.sizeOf3
  v3 := Tryz.zeroValue3
  i3 := by kernel_rfl
  t4 := Tryz.underlying4
  a4 := Tryz.isAgg4
  z4 := Tryz.sizeOf4
  v4 := Tryz.zeroValue4
  i4 := by kernel_rfl
  t26 := Tryz.underlying232
  a26 := Tryz.isAgg232
  z26 := Tryz.sizeOf232
  v26 := Tryz.zeroValue232
  i26 := by kernel_rfl
  t38 := Tryz.underlying247
  a38 := Tryz.isAgg247
  z38 := Tryz.sizeOf247
  v38 := Tryz.zeroValue247
  i38 := by kernel_rfl
  t43 := Tryz.underlying207
  a43 := Tryz.isAgg207
  z43 := Tryz.sizeOf207
  v43 := Tryz.zeroValue207
  i43 := by kernel_rfl
  t45 := Tryz.underlying206
  a45 := Tryz.isAgg206
  z45 := Tryz.sizeOf206
  v45 := Tryz.zeroValue206
  i45 := by kernel_rfl
  t71 := Tryz.underlying252
  a71 := Tryz.isAgg252
  z71 := Tryz.sizeOf252
  v71 := Tryz.zeroValue252
  i71 := by kernel_rfl
  t74 := Tryz.underlying264
  a74 := Tryz.isAgg264
  z74 := Tryz.sizeOf264
  v74 := Tryz.zeroValue264
  i74 := by kernel_rfl }
open Go.RowKit Go.Lib Go.Sort in
theorem Tryz.medianAdjacent_iface {α : Type} [Inhabited α] (T : TypeId) (rv : Value) (gl : Nat) (rL : Reaches Tryz.prog T rv "Less" gl) (enc : α → Value) (lt : α → α → Bool) (blk off : Nat) (w0 W : World) (d : Array α) (a cb co s : Nat) (hL : LessM Tryz.prog gl rv enc lt blk off d.size w0) (hW : SW enc w0 blk off d W) (ha1 : 1 ≤ a) (ha2 : a + 1 < d.size) (hsz : d.size < 4611686018427387904) (hS : Holds (Value.int .i64) W cb co (one s)) (hcb0 : w0.heap.size ≤ cb) (hcb : cb < W.heap.size) (hs : s + 3 < 4611686018427387904) :
    Calls Tryz.prog 148 #[.iface T rv, .int .i64 a, .pointer (some ⟨cb, co, none⟩)] W fun e w' =>
      e = .returned (.int .i64 (medianAdjacent lt d a s).1) ∧ ∃ n os, w' = sortWorld (Value.int .i64) W cb co n (one (medianAdjacent lt d a s).2) os := Any.medianAdjacent_iface Tryz.laysGt46 T rv gl rL enc lt blk off w0 W d a cb co s hL hW ha1 ha2 hsz hS hcb0 hcb hs
def Tryz.laysGt36_ren : Go.Shelf.Ren := ⟨fun | 36 => 135 | 46 => 148 | 47 => 149 | 50 => 154 | n => n, fun | 45 => 206 | 3 => 3 | 60 => 228 | 0 => 0 | 4 => 4 | 71 => 252 | 74 => 264 | 43 => 207 | 26 => 232 | 38 => 247 | n => n, fun | n => n⟩
theorem Tryz.laysGt36 : Go.Proofs.LaysGt.n36 Tryz.prog Tryz.laysGt36_ren := {
  mixed := by kernel_rfl
  f36 := Tryz.func135.trans (congrArg some (by kernel_rfl))
  f46 := Tryz.func148.trans (congrArg some (by kernel_rfl))
  f47 := Tryz.func149.trans (congrArg some (by kernel_rfl))
  f50 := Tryz.func154.trans (congrArg some (by kernel_rfl))
  t0 := Tryz.underlying0
  a0 := Tryz.isAgg0
  z0 := Tryz.sizeOf0
  v0 := Tryz.zeroValue0
  i0 := by kernel_rfl
  t3 := Tryz.underlying3
  a3 := Tryz.isAgg3
  z3 := Tryz.sizeOf3
  v3 := Tryz.zeroValue3
  i3 := by kernel_rfl
  t4 := Tryz.underlying4
  a4 := Tryz.isAgg4
  z4 := Tryz.sizeOf4
  v4 := Tryz.zeroValue4
  i4 := by kernel_rfl
  t26 := Tryz.underlying232
  a26 := Tryz.isAgg232
  z26 := Tryz.sizeOf232
  v26 := Tryz.zeroValue232
  i26 := by kernel_rfl
  t38 := Tryz.underlying247
  a38 := Tryz.isAgg247
  z38 := Tryz.sizeOf247
  v38 := Tryz.zeroValue247
  i38 := by kernel_rfl
  t43 := Tryz.underlying207
  a43 := Tryz.isAgg207
  z43 := Tryz.sizeOf207
  v43 := Tryz.zeroValue207
  i43 := by kernel_rfl
  t45 := Tryz.underlying206
  a45 := Tryz.isAgg206
  z45 := Tryz.sizeOf206
  v45 := Tryz.zeroValue206
  i45 := by kernel_rfl
  t60 := Tryz.underlying228
  a60 := Tryz.isAgg228
  z60 := Tryz.sizeOf228
  v60 := Tryz.zeroValue228
  i60 := by kernel_rfl
  t71 := Tryz.underlying252
  a71 := Tryz.isAgg252
  z71 := Tryz.sizeOf252
  v71 := Tryz.zeroValue252
  i71 := by kernel_rfl
  t74 := Tryz.underlying264
  a74 := Tryz.isAgg264
  z74 := Tryz.sizeOf264
  v74 := Tryz.zeroValue264
  i74 := by kernel_rfl }
open Go.RowKit Go.Lib Go.Sort in
/-- sort.choosePivot (zsortinterface.go): THE LIBRARY's OWN TEXT COMPUTES 'Sort.choosePivot lt d a b'; the row is not turned; W is grown. (Derived/Shelf/GgSortFunc/Pivot.lean's text, turned by program.) (LAID: no walk: one application.) -/
theorem Tryz.choosePivot_iface {α : Type} [Inhabited α] (T : TypeId) (rv : Value) (gl : Nat) (rL : Reaches Tryz.prog T rv "Less" gl) (enc : α → Value) (lt : α → α → Bool) (blk off a b : Nat) (W : World) (d : Array α) (hless : LessM Tryz.prog gl rv enc lt blk off d.size W) (hH : Holds enc W blk off d) (hab : a < b) (hb : b ≤ d.size) (hsz : d.size < 4611686018427387904) :
    Calls Tryz.prog 135 #[.iface T rv, .int .i64 a, .int .i64 b] W fun e w' =>
      e = .returned (.tuple #[.int .i64 (choosePivot lt d a b).1, .int .i64 (hintCode (choosePivot lt d a b).2)]) ∧ ∃ n os, w' = grow (Sort.ahead W n) os := Any.choosePivot_iface Tryz.laysGt36 T rv gl rL enc lt blk off a b W d hless hH hab hb hsz
def Tryz.laysGt39_ren : Go.Shelf.Ren := ⟨fun | 39 => 138 | n => n, fun | 45 => 206 | 3 => 3 | 0 => 0 | 4 => 4 | 43 => 207 | 26 => 232 | 38 => 247 | n => n, fun | n => n⟩
theorem Tryz.laysGt39 : Go.Proofs.LaysGt.n39 Tryz.prog Tryz.laysGt39_ren := {
  mixed := by kernel_rfl
  f39 := Tryz.func138.trans (congrArg some (by kernel_rfl))
  t0 := Tryz.underlying0
  a0 := Tryz.isAgg0
  z0 := Tryz.sizeOf0
  v0 := Tryz.zeroValue0
  i0 := by kernel_rfl
  t3 := Tryz.underlying3
  a3 := Tryz.isAgg3
  z3 := Tryz.sizeOf3
  v3 := Tryz.zeroValue3
  i3 := by kernel_rfl
  t4 := Tryz.underlying4
  a4 := Tryz.isAgg4
  z4 := Tryz.sizeOf4
  v4 := Tryz.zeroValue4
  i4 := by kernel_rfl
  t26 := Tryz.underlying232
  a26 := Tryz.isAgg232
  z26 := Tryz.sizeOf232
  v26 := Tryz.zeroValue232
  i26 := by kernel_rfl
  t38 := Tryz.underlying247
  a38 := Tryz.isAgg247
  z38 := Tryz.sizeOf247
  v38 := Tryz.zeroValue247
  i38 := by kernel_rfl
  t43 := Tryz.underlying207
  a43 := Tryz.isAgg207
  z43 := Tryz.sizeOf207
  v43 := Tryz.zeroValue207
  i43 := by kernel_rfl
  t45 := Tryz.underlying206
  a45 := Tryz.isAgg206
  z45 := Tryz.sizeOf206
  v45 := Tryz.zeroValue206
  i45 := by kernel_rfl }
open Go.RowKit Go.Lib Go.Sort in
theorem Tryz.partitionEqual_iface {α : Type} [Inhabited α] (T : TypeId) (rv : Value) (gl gs : Nat) (rL : Reaches Tryz.prog T rv "Less" gl) (rS : Reaches Tryz.prog T rv "Swap" gs) (enc : α → Value) (lt : α → α → Bool) (blk off a b pivot : Nat) (d : Array α) (W : World) (hless : LessM Tryz.prog gl rv enc lt blk off d.size W) (hswap : SwapM Tryz.prog gs rv enc blk off d.size) (hH : Holds enc W blk off d) (hap : a ≤ pivot) (hpb : pivot < b) (hb : b ≤ d.size) (hsz : d.size < 4611686018427387904) :
    Calls Tryz.prog 138 #[.iface T rv, .int .i64 a, .int .i64 b, .int .i64 pivot] W fun e w' =>
      e = .returned (.int .i64 (Sort.partitionEqual lt d a b pivot).1) ∧ ∃ n, w' = (putRow enc W blk off (Sort.partitionEqual lt d a b pivot).2).drewN n := Any.partitionEqual_iface Tryz.laysGt39 T rv gl gs rL rS enc lt blk off a b pivot d W hless hswap hH hap hpb hb hsz
def Tryz.laysGt40_ren : Go.Shelf.Ren := ⟨fun | 40 => 139 | n => n, fun | 45 => 206 | 3 => 3 | 4 => 4 | 0 => 0 | 43 => 207 | 26 => 232 | 38 => 247 | n => n, fun | n => n⟩
theorem Tryz.laysGt40 : Go.Proofs.LaysGt.n40 Tryz.prog Tryz.laysGt40_ren := {
  mixed := by kernel_rfl
  f40 := Tryz.func139.trans (congrArg some (by kernel_rfl))
  t0 := Tryz.underlying0
  a0 := Tryz.isAgg0
  z0 := Tryz.sizeOf0
  v0 := Tryz.zeroValue0
  i0 := by kernel_rfl
  t3 := Tryz.underlying3
  a3 := Tryz.isAgg3
  z3 := Tryz.sizeOf3
  v3 := Tryz.zeroValue3
  i3 := by kernel_rfl
  t4 := Tryz.underlying4
  a4 := Tryz.isAgg4
  z4 := Tryz.sizeOf4
  v4 := Tryz.zeroValue4
  i4 := by kernel_rfl
  t26 := Tryz.underlying232
  a26 := Tryz.isAgg232
  z26 := Tryz.sizeOf232
  v26 := Tryz.zeroValue232
  i26 := by kernel_rfl
  t38 := Tryz.underlying247
  a38 := Tryz.isAgg247
  z38 := Tryz.sizeOf247
  v38 := Tryz.zeroValue247
  i38 := by kernel_rfl
  t43 := Tryz.underlying207
  a43 := Tryz.isAgg207
  z43 := Tryz.sizeOf207
  v43 := Tryz.zeroValue207
  i43 := by kernel_rfl
  t45 := Tryz.underlying206
  a45 := Tryz.isAgg206
  z45 := Tryz.sizeOf206
  v45 := Tryz.zeroValue206
  i45 := by kernel_rfl }
open Go.RowKit Go.Lib Go.Sort in
theorem Tryz.partition_iface {α : Type} [Inhabited α] (T : TypeId) (rv : Value) (gl gs : Nat) (rL : Reaches Tryz.prog T rv "Less" gl) (rS : Reaches Tryz.prog T rv "Swap" gs) (enc : α → Value) (lt : α → α → Bool) (blk off a b pivot : Nat) (d : Array α) (W : World) (hless : LessM Tryz.prog gl rv enc lt blk off d.size W) (hswap : SwapM Tryz.prog gs rv enc blk off d.size) (hH : Holds enc W blk off d) (hap : a ≤ pivot) (hpb : pivot < b) (hb : b ≤ d.size) (hsz : d.size < 4611686018427387904) :
    Calls Tryz.prog 139 #[.iface T rv, .int .i64 a, .int .i64 b, .int .i64 pivot] W fun e w' =>
      e = .returned (.tuple #[.int .i64 (Sort.partition lt d a b pivot).1, .bool (Sort.partition lt d a b pivot).2.1]) ∧ ∃ n, w' = (putRow enc W blk off (Sort.partition lt d a b pivot).2.2).drewN n := Any.partition_iface Tryz.laysGt40 T rv gl gs rL rS enc lt blk off a b pivot d W hless hswap hH hap hpb hb hsz
open Go.RowKit Go.Lib Go.Sort in
theorem Tryz.partitionEqual_iface_w {α : Type} [Inhabited α] (T : TypeId) (rv : Value) (gl gs : Nat) (rL : Reaches Tryz.prog T rv "Less" gl) (rS : Reaches Tryz.prog T rv "Swap" gs) (enc : α → Value) (lt : α → α → Bool) (blk off a b pivot : Nat) (d : Array α) (W : World) (hless : LessM Tryz.prog gl rv enc lt blk off d.size W) (hswap : SwapM Tryz.prog gs rv enc blk off d.size) (hH : Holds enc W blk off d) (hap : a ≤ pivot) (hpb : pivot < b) (hb : b ≤ d.size) (hsz : d.size < 4611686018427387904) :
    Calls Tryz.prog 138 #[.iface T rv, .int .i64 a, .int .i64 b, .int .i64 pivot] W fun e w' => e = .returned (.int .i64 (Sort.partitionEqual lt d a b pivot).1) ∧ ∃ n os, w' = sortWorld enc W blk off n (Sort.partitionEqual lt d a b pivot).2 os := Any.partitionEqual_iface_w Tryz.laysGt39 T rv gl gs rL rS enc lt blk off a b pivot d W hless hswap hH hap hpb hb hsz
open Go.RowKit Go.Lib Go.Sort in
theorem Tryz.partition_iface_w {α : Type} [Inhabited α] (T : TypeId) (rv : Value) (gl gs : Nat) (rL : Reaches Tryz.prog T rv "Less" gl) (rS : Reaches Tryz.prog T rv "Swap" gs) (enc : α → Value) (lt : α → α → Bool) (blk off a b pivot : Nat) (d : Array α) (W : World) (hless : LessM Tryz.prog gl rv enc lt blk off d.size W) (hswap : SwapM Tryz.prog gs rv enc blk off d.size) (hH : Holds enc W blk off d) (hap : a ≤ pivot) (hpb : pivot < b) (hb : b ≤ d.size) (hsz : d.size < 4611686018427387904) :
    Calls Tryz.prog 139 #[.iface T rv, .int .i64 a, .int .i64 b, .int .i64 pivot] W fun e w' => e = .returned (.tuple #[.int .i64 (Sort.partition lt d a b pivot).1, .bool (Sort.partition lt d a b pivot).2.1]) ∧ ∃ n os, w' = sortWorld enc W blk off n (Sort.partition lt d a b pivot).2.2 os := Any.partition_iface_w Tryz.laysGt40 T rv gl gs rL rS enc lt blk off a b pivot d W hless hswap hH hap hpb hb hsz
def Tryz.laysGt18_ren : Go.Shelf.Ren := ⟨fun | 18 => 124 | 33 => 132 | 34 => 133 | 35 => 134 | 36 => 135 | 37 => 136 | 38 => 137 | 39 => 138 | 40 => 139 | 43 => 145 | 44 => 146 | 45 => 147 | 46 => 148 | 47 => 149 | 17 => 123 | 50 => 154 | 31 => 130 | 32 => 131 | n => n, fun | 45 => 206 | 3 => 3 | 4 => 4 | 0 => 0 | 61 => 229 | 60 => 228 | 65 => 234 | 67 => 248 | 47 => 209 | 58 => 46 | 71 => 252 | 73 => 263 | 74 => 264 | 56 => 60 | 5 => 5 | 9 => 9 | 43 => 207 | 26 => 232 | 38 => 247 | n => n, fun | n => n⟩
theorem Tryz.laysGt18 : Go.Proofs.LaysGt.n18 Tryz.prog Tryz.laysGt18_ren := {
  mixed := by kernel_rfl
  f17 := Tryz.func123.trans (congrArg some (by kernel_rfl))
  f18 := Tryz.func124.trans (congrArg some (by kernel_rfl))
  f31 := Tryz.func130.trans (congrArg some (by kernel_rfl))
  f32 := Tryz.func131.trans (congrArg some (by kernel_rfl))
  f33 := Tryz.func132.trans (congrArg some (by kernel_rfl))
  f34 := Tryz.func133.trans (congrArg some (by kernel_rfl))
  f35 := Tryz.func134.trans (congrArg some (by kernel_rfl))
  f36 := Tryz.func135.trans (congrArg some (by kernel_rfl))
  f37 := Tryz.func136.trans (congrArg some (by kernel_rfl))
  f38 := Tryz.func137.trans (congrArg some (by kernel_rfl))
  f39 := Tryz.func138.trans (congrArg some (by kernel_rfl))
  f40 := Tryz.func139.trans (congrArg some (by kernel_rfl))
  f43 := Tryz.func145.trans (congrArg some (by kernel_rfl))
  f44 := Tryz.func146.trans (congrArg some (by kernel_rfl))
  f45 := Tryz.func147.trans (congrArg some (by kernel_rfl))
  f46 := Tryz.func148.trans (congrArg some (by kernel_rfl))
  f47 := Tryz.func149.trans (congrArg some (by kernel_rfl))
  f50 := Tryz.func154.trans (congrArg some (by kernel_rfl))
  t0 := Tryz.underlying0
  a0 := Tryz.isAgg0
  z0 := Tryz.sizeOf0
  v0 := Tryz.zeroValue0
  i0 := by kernel_rfl
  t3 := Tryz.underlying3
  a3 := Tryz.isAgg3
  z3 := Tryz.sizeOf3
  v3 := Tryz.zeroValue3
  i3 := by kernel_rfl
  t4 := Tryz.underlying4
  a4 := Tryz.isAgg4
  z4 := Tryz.sizeOf4
  v4 := Tryz.zeroValue4
  i4 := by kernel_rfl
  t5 := Tryz.underlying5
  a5 := Tryz.isAgg5
  z5 := Tryz.sizeOf5
  v5 := Tryz.zeroValue5
  i5 := by kernel_rfl
  t9 := Tryz.underlying9
  a9 := Tryz.isAgg9
  z9 := Tryz.sizeOf9
  v9 := Tryz.zeroValue9
  i9 := by kernel_rfl
  t26 := Tryz.underlying232
  a26 := Tryz.isAgg232
  z26 := Tryz.sizeOf232
  v26 := Tryz.zeroValue232
  i26 := by kernel_rfl
  t38 := Tryz.underlying247
  a38 := Tryz.isAgg247
  z38 := Tryz.sizeOf247
  v38 := Tryz.zeroValue247
  i38 := by kernel_rfl
  t43 := Tryz.underlying207
  a43 := Tryz.isAgg207
  z43 := Tryz.sizeOf207
  v43 := Tryz.zeroValue207
  i43 := by kernel_rfl
  t45 := Tryz.underlying206
  a45 := Tryz.isAgg206
  z45 := Tryz.sizeOf206
  v45 := Tryz.zeroValue206
  i45 := by kernel_rfl
  t47 := Tryz.underlying209
  a47 := Tryz.isAgg209
  z47 := Tryz.sizeOf209
  v47 := Tryz.zeroValue209
  i47 := by kernel_rfl
  t56 := Tryz.underlying60
  a56 := Tryz.isAgg60
  z56 := Tryz.sizeOf60
  v56 := Tryz.zeroValue60
  i56 := by kernel_rfl
  t58 := Tryz.underlying46
  a58 := Tryz.isAgg46
  z58 := Tryz.sizeOf46
  v58 := Tryz.zeroValue46
  i58 := by kernel_rfl
  t60 := Tryz.underlying228
  a60 := Tryz.isAgg228
  z60 := Tryz.sizeOf228
  v60 := Tryz.zeroValue228
  i60 := by kernel_rfl
  t61 := Tryz.underlying229
  a61 := Tryz.isAgg229
  z61 := Tryz.sizeOf229
  v61 := Tryz.zeroValue229
  i61 := by kernel_rfl
  t65 := Tryz.underlying234
  a65 := Tryz.isAgg234
  z65 := Tryz.sizeOf234
  v65 := Tryz.zeroValue234
  i65 := by kernel_rfl
  t67 := Tryz.underlying248
  a67 := Tryz.isAgg248
  z67 := Tryz.sizeOf248
  v67 := Tryz.zeroValue248
  i67 := by kernel_rfl
  t71 := Tryz.underlying252
  a71 := Tryz.isAgg252
  z71 := Tryz.sizeOf252
  v71 := Tryz.zeroValue252
  i71 := by kernel_rfl
  t73 := Tryz.underlying263
  a73 := Tryz.isAgg263
  z73 := Tryz.sizeOf263
  v73 := Tryz.zeroValue263
  i73 := by kernel_rfl
  t74 := Tryz.underlying264
  a74 := Tryz.isAgg264
  z74 := Tryz.sizeOf264
  v74 := Tryz.zeroValue264
  i74 := by kernel_rfl }
open Go.RowKit Go.Lib Go.Sort in
theorem Tryz.pdqsort_iface {α : Type} [Inhabited α] (T : TypeId) (rv : Value) (gl gs : Nat) (rL : Reaches Tryz.prog T rv "Less" gl) (rS : Reaches Tryz.prog T rv "Swap" gs) (enc : α → Value) (lt : α → α → Bool) (hO : SWO lt) (C : IfaceThree Tryz.prog Tryz.laysGt18_ren T rv gl gs enc lt) :
    ∀ (N blk off a b limit : Nat) (d : Array α) (w : World), b - a < N → LessM Tryz.prog gl rv enc lt blk off d.size w → SwapM Tryz.prog gs rv enc blk off d.size → Holds enc w blk off d → blk < w.heap.size → a ≤ b → b ≤ d.size → d.size < 4611686018427387904 → limit < 4611686018427387904 → Below lt a b d →
    Calls Tryz.prog 124 #[.iface T rv, .int .i64 a, .int .i64 b, .int .i64 limit] w fun e w' => e = .returned (.tuple #[]) ∧ At enc w blk off (pdq lt d a b limit true true) w' := Any.pdqsort_iface Tryz.laysGt18 T rv gl gs rL rS enc lt hO C
def Tryz.laysGt11_ren : Go.Shelf.Ren := ⟨fun | 11 => 102 | 17 => 123 | 18 => 124 | 31 => 130 | 32 => 131 | 33 => 132 | 34 => 133 | 35 => 134 | 36 => 135 | 37 => 136 | 38 => 137 | 39 => 138 | 40 => 139 | 43 => 145 | 44 => 146 | 45 => 147 | 46 => 148 | 47 => 149 | 50 => 154 | n => n, fun | 45 => 206 | 3 => 3 | 4 => 4 | 47 => 209 | 0 => 0 | 56 => 60 | 58 => 46 | 61 => 229 | 60 => 228 | 65 => 234 | 5 => 5 | 9 => 9 | 67 => 248 | 71 => 252 | 73 => 263 | 74 => 264 | 43 => 207 | 26 => 232 | 38 => 247 | n => n, fun | n => n⟩
theorem Tryz.laysGt11 : Go.Proofs.LaysGt.n11 Tryz.prog Tryz.laysGt11_ren := {
  mixed := by kernel_rfl
  f11 := Tryz.func102.trans (congrArg some (by kernel_rfl))
  f17 := Tryz.func123.trans (congrArg some (by kernel_rfl))
  f18 := Tryz.func124.trans (congrArg some (by kernel_rfl))
  f31 := Tryz.func130.trans (congrArg some (by kernel_rfl))
  f32 := Tryz.func131.trans (congrArg some (by kernel_rfl))
  f33 := Tryz.func132.trans (congrArg some (by kernel_rfl))
  f34 := Tryz.func133.trans (congrArg some (by kernel_rfl))
  f35 := Tryz.func134.trans (congrArg some (by kernel_rfl))
  f36 := Tryz.func135.trans (congrArg some (by kernel_rfl))
  f37 := Tryz.func136.trans (congrArg some (by kernel_rfl))
  f38 := Tryz.func137.trans (congrArg some (by kernel_rfl))
  f39 := Tryz.func138.trans (congrArg some (by kernel_rfl))
  f40 := Tryz.func139.trans (congrArg some (by kernel_rfl))
  f43 := Tryz.func145.trans (congrArg some (by kernel_rfl))
  f44 := Tryz.func146.trans (congrArg some (by kernel_rfl))
  f45 := Tryz.func147.trans (congrArg some (by kernel_rfl))
  f46 := Tryz.func148.trans (congrArg some (by kernel_rfl))
  f47 := Tryz.func149.trans (congrArg some (by kernel_rfl))
  f50 := Tryz.func154.trans (congrArg some (by kernel_rfl))
  t0 := Tryz.underlying0
  a0 := Tryz.isAgg0
  z0 := Tryz.sizeOf0
  v0 := Tryz.zeroValue0
  i0 := by kernel_rfl
  t3 := Tryz.underlying3
  a3 := Tryz.isAgg3
  z3 := Tryz.sizeOf3
  v3 := Tryz.zeroValue3
  i3 := by kernel_rfl
  t4 := Tryz.underlying4
  a4 := Tryz.isAgg4
  z4 := Tryz.sizeOf4
  v4 := Tryz.zeroValue4
  i4 := by kernel_rfl
  t5 := Tryz.underlying5
  a5 := Tryz.isAgg5
  z5 := Tryz.sizeOf5
  v5 := Tryz.zeroValue5
  i5 := by kernel_rfl
  t9 := Tryz.underlying9
  a9 := Tryz.isAgg9
  z9 := Tryz.sizeOf9
  v9 := Tryz.zeroValue9
  i9 := by kernel_rfl
  t26 := Tryz.underlying232
  a26 := Tryz.isAgg232
  z26 := Tryz.sizeOf232
  v26 := Tryz.zeroValue232
  i26 := by kernel_rfl
  t38 := Tryz.underlying247
  a38 := Tryz.isAgg247
  z38 := Tryz.sizeOf247
  v38 := Tryz.zeroValue247
  i38 := by kernel_rfl
  t43 := Tryz.underlying207
  a43 := Tryz.isAgg207
  z43 := Tryz.sizeOf207
  v43 := Tryz.zeroValue207
  i43 := by kernel_rfl
  t45 := Tryz.underlying206
  a45 := Tryz.isAgg206
  z45 := Tryz.sizeOf206
  v45 := Tryz.zeroValue206
  i45 := by kernel_rfl
  t47 := Tryz.underlying209
  a47 := Tryz.isAgg209
  z47 := Tryz.sizeOf209
  v47 := Tryz.zeroValue209
  i47 := by kernel_rfl
  t56 := Tryz.underlying60
  a56 := Tryz.isAgg60
  z56 := Tryz.sizeOf60
  v56 := Tryz.zeroValue60
  i56 := by kernel_rfl
  t58 := Tryz.underlying46
  a58 := Tryz.isAgg46
  z58 := Tryz.sizeOf46
  v58 := Tryz.zeroValue46
  i58 := by kernel_rfl
  t60 := Tryz.underlying228
  a60 := Tryz.isAgg228
  z60 := Tryz.sizeOf228
  v60 := Tryz.zeroValue228
  i60 := by kernel_rfl
  t61 := Tryz.underlying229
  a61 := Tryz.isAgg229
  z61 := Tryz.sizeOf229
  v61 := Tryz.zeroValue229
  i61 := by kernel_rfl
  t65 := Tryz.underlying234
  a65 := Tryz.isAgg234
  z65 := Tryz.sizeOf234
  v65 := Tryz.zeroValue234
  i65 := by kernel_rfl
  t67 := Tryz.underlying248
  a67 := Tryz.isAgg248
  z67 := Tryz.sizeOf248
  v67 := Tryz.zeroValue248
  i67 := by kernel_rfl
  t71 := Tryz.underlying252
  a71 := Tryz.isAgg252
  z71 := Tryz.sizeOf252
  v71 := Tryz.zeroValue252
  i71 := by kernel_rfl
  t73 := Tryz.underlying263
  a73 := Tryz.isAgg263
  z73 := Tryz.sizeOf263
  v73 := Tryz.zeroValue263
  i73 := by kernel_rfl
  t74 := Tryz.underlying264
  a74 := Tryz.isAgg264
  z74 := Tryz.sizeOf264
  v74 := Tryz.zeroValue264
  i74 := by kernel_rfl }
open Go.RowKit Go.Lib Go.Sort in
theorem Tryz.sort_Sort_tiny {α : Type} [Inhabited α] (T : TypeId) (rv : Value) (gn : Nat) (rN : Reaches Tryz.prog T rv "Len" gn) (n : Nat) (hn : n ≤ 1) (w : World) (hlen : LenM Tryz.prog gn rv n w) :
    Calls Tryz.prog 102 #[.iface T rv] w fun e w' => e = .returned (.tuple #[]) ∧ ∃ q, w' = w.drewN q := Any.sort_Sort_tiny Tryz.laysGt11 T rv gn rN n hn w hlen
open Go.RowKit Go.Lib Go.Sort in
/-- **sort.Sort: WHAT THE ROW HOLDS, TO THE ELEMENT.** (LAID: no walk: one application.) -/
theorem Tryz.sort_Sort_eq {α : Type} [Inhabited α] (T : TypeId) (rv : Value) (gn gl gs : Nat) (rN : Reaches Tryz.prog T rv "Len" gn) (rL : Reaches Tryz.prog T rv "Less" gl) (rS : Reaches Tryz.prog T rv "Swap" gs) (enc : α → Value) (lt : α → α → Bool) (hO : SWO lt) (blk off : Nat) (d : Array α) (h2 : 2 ≤ d.size) (hsz : d.size < 4611686018427387904) (w : World) (hlen : LenM Tryz.prog gn rv d.size w) (hless : LessM Tryz.prog gl rv enc lt blk off d.size w) (hswap : SwapM Tryz.prog gs rv enc blk off d.size) (hH : Holds enc w blk off d) (hblk : blk < w.heap.size) :
    Calls Tryz.prog 102 #[.iface T rv] w fun e w' => e = .returned (.tuple #[]) ∧ ∃ n os, w' = grow (putRow enc (Sort.ahead w n) blk off (pdq lt d 0 d.size (Lib.bitLen d.size) true true)) os := Any.sort_Sort_eq Tryz.laysGt11 T rv gn gl gs rN rL rS enc lt hO blk off d h2 hsz w hlen hless hswap hH hblk
open Go.RowKit Go.Lib Go.Sort in
/-- **sort.Sort, IN THE DOCUMENTATION's OWN TERMS ("Sort sorts data in ascending order as determined by the Less method. .. The sort is not guaranteed to be stable"): A PERMUTATION OF WHAT THE ROW HELD, SORTED BY 'lt'.** (LAID: no walk: one application.) -/
theorem Tryz.sort_Sort_sorted {α : Type} [Inhabited α] (T : TypeId) (rv : Value) (gn gl gs : Nat) (rN : Reaches Tryz.prog T rv "Len" gn) (rL : Reaches Tryz.prog T rv "Less" gl) (rS : Reaches Tryz.prog T rv "Swap" gs) (enc : α → Value) (lt : α → α → Bool) (hO : SWO lt) (blk off : Nat) (d : Array α) (h2 : 2 ≤ d.size) (hsz : d.size < 4611686018427387904) (w : World) (hlen : LenM Tryz.prog gn rv d.size w) (hless : LessM Tryz.prog gl rv enc lt blk off d.size w) (hswap : SwapM Tryz.prog gs rv enc blk off d.size) (hH : Holds enc w blk off d) (hblk : blk < w.heap.size) :
    Calls Tryz.prog 102 #[.iface T rv] w fun e w' => e = .returned (.tuple #[]) ∧ ∃ d' n os, PermIn 0 d.size d d' ∧ SortedIn lt 0 d.size d' ∧ w' = grow (putRow enc (Sort.ahead w n) blk off d') os := Any.sort_Sort_sorted Tryz.laysGt11 T rv gn gl gs rN rL rS enc lt hO blk off d h2 hsz w hlen hless hswap hH hblk
def Tryz.laysGg36_ren : Go.Shelf.Ren := ⟨fun | 36 => 147 | n => n, fun | 66 => 263 | 51 => 46 | 0 => 0 | 60 => 248 | 41 => 209 | n => n, fun | n => n⟩
theorem Tryz.laysGg36 : Go.Proofs.LaysGg.n36 Tryz.prog Tryz.laysGg36_ren := {
  mixed := by kernel_rfl
  f36 := Tryz.func147.trans (congrArg some (by kernel_rfl))
  t0 := Tryz.underlying0
  a0 := Tryz.isAgg0
  z0 := Tryz.sizeOf0
  v0 := Tryz.zeroValue0
  i0 := by kernel_rfl
  t41 := Tryz.underlying209
  a41 := Tryz.isAgg209
  z41 := Tryz.sizeOf209
  v41 := Tryz.zeroValue209
  i41 := by kernel_rfl
  t51 := Tryz.underlying46
  a51 := Tryz.isAgg46
  z51 := Tryz.sizeOf46
  v51 := Tryz.zeroValue46
  i51 := by kernel_rfl
  t60 := Tryz.underlying248
  a60 := Tryz.isAgg248
  z60 := Tryz.sizeOf248
  v60 := Tryz.zeroValue248
  i60 := by kernel_rfl
  t66 := Tryz.underlying263
  a66 := Tryz.isAgg263
  z66 := Tryz.sizeOf263
  v66 := Tryz.zeroValue263
  i66 := by kernel_rfl }
open Go.RowKit Go.Lib Go.Sort in
/-- '*r ^= *r << 13; *r ^= *r >> 7; *r ^= *r << 17; return uint64(*r)': the cell holds 'xorNextN X' and that is handed back; three draws; nothing else turns. (LAID: no walk: one application.) -/
theorem Tryz.xorshift_Next (rb ro X : Nat) (hX : X < 18446744073709551616) (w : World) (hc : w.cell? ⟨rb, ro, none⟩ = some (.int .u64 X)) (hf : w.frozen? ⟨rb, ro, none⟩ = false) :
    Calls Tryz.prog 147 #[.pointer (some ⟨rb, ro, none⟩)] w fun e w' => e = .returned (.int .u64 (xorNextN X : Nat)) ∧ w' = (w.setCell ⟨rb, ro, none⟩ (.int .u64 (xorNextN X : Nat))).drewN 3 := Any.xorshift_Next Tryz.laysGg36 rb ro X hX w hc hf
def Tryz.laysGg35_ren : Go.Shelf.Ren := ⟨fun | 35 => 146 | 13 => 123 | 24 => 130 | 25 => 131 | n => n, fun | 3 => 3 | 41 => 209 | 49 => 60 | 51 => 46 | 4 => 4 | 5 => 5 | 9 => 9 | n => n, fun | n => n⟩
theorem Tryz.laysGg35 : Go.Proofs.LaysGg.n35 Tryz.prog Tryz.laysGg35_ren := {
  mixed := by kernel_rfl
  f13 := Tryz.func123.trans (congrArg some (by kernel_rfl))
  f24 := Tryz.func130.trans (congrArg some (by kernel_rfl))
  f25 := Tryz.func131.trans (congrArg some (by kernel_rfl))
  f35 := Tryz.func146.trans (congrArg some (by kernel_rfl))
  t3 := Tryz.underlying3
  a3 := Tryz.isAgg3
  z3 := Tryz.sizeOf3
  v3 := Tryz.zeroValue3
  i3 := by kernel_rfl
  t4 := Tryz.underlying4
  a4 := Tryz.isAgg4
  z4 := Tryz.sizeOf4
  v4 := Tryz.zeroValue4
  i4 := by kernel_rfl
  t5 := Tryz.underlying5
  a5 := Tryz.isAgg5
  z5 := Tryz.sizeOf5
  v5 := Tryz.zeroValue5
  i5 := by kernel_rfl
  t9 := Tryz.underlying9
  a9 := Tryz.isAgg9
  z9 := Tryz.sizeOf9
  v9 := Tryz.zeroValue9
  i9 := by kernel_rfl
  t41 := Tryz.underlying209
  a41 := Tryz.isAgg209
  z41 := Tryz.sizeOf209
  v41 := Tryz.zeroValue209
  i41 := by kernel_rfl
  t49 := Tryz.underlying60
  a49 := Tryz.isAgg60
  z49 := Tryz.sizeOf60
  v49 := Tryz.zeroValue60
  i49 := by kernel_rfl
  t51 := Tryz.underlying46
  a51 := Tryz.isAgg46
  z51 := Tryz.sizeOf46
  v51 := Tryz.zeroValue46
  i51 := by kernel_rfl }
open Go.RowKit Go.Lib Go.Sort in
/-- 'return 1 << bits.Len(uint(length))'. (LAID: no walk: one application.) -/
theorem Tryz.nextPowerOfTwo (n : Nat) (hn : n < 4611686018427387904) (w : World) :
    Calls Tryz.prog 146 #[.int .i64 n] w fun e w' => e = .returned (.int .u64 ((1 <<< bitsLen n : Nat) : Int)) ∧ w' = w := Any.nextPowerOfTwo Tryz.laysGg35 n hn w
def Tryz.laysGt43_ren : Go.Shelf.Ren := ⟨fun | 43 => 145 | n => n, fun | 45 => 206 | 3 => 3 | 4 => 4 | 0 => 0 | 43 => 207 | 26 => 232 | 38 => 247 | n => n, fun | n => n⟩
theorem Tryz.laysGt43 : Go.Proofs.LaysGt.n43 Tryz.prog Tryz.laysGt43_ren := {
  mixed := by kernel_rfl
  f43 := Tryz.func145.trans (congrArg some (by kernel_rfl))
  t0 := Tryz.underlying0
  a0 := Tryz.isAgg0
  z0 := Tryz.sizeOf0
  v0 := Tryz.zeroValue0
  i0 := by kernel_rfl
  t3 := Tryz.underlying3
  a3 := Tryz.isAgg3
  z3 := Tryz.sizeOf3
  v3 := Tryz.zeroValue3
  i3 := by kernel_rfl
  t4 := Tryz.underlying4
  a4 := Tryz.isAgg4
  z4 := Tryz.sizeOf4
  v4 := Tryz.zeroValue4
  i4 := by kernel_rfl
  t26 := Tryz.underlying232
  a26 := Tryz.isAgg232
  z26 := Tryz.sizeOf232
  v26 := Tryz.zeroValue232
  i26 := by kernel_rfl
  t38 := Tryz.underlying247
  a38 := Tryz.isAgg247
  z38 := Tryz.sizeOf247
  v38 := Tryz.zeroValue247
  i38 := by kernel_rfl
  t43 := Tryz.underlying207
  a43 := Tryz.isAgg207
  z43 := Tryz.sizeOf207
  v43 := Tryz.zeroValue207
  i43 := by kernel_rfl
  t45 := Tryz.underlying206
  a45 := Tryz.isAgg206
  z45 := Tryz.sizeOf206
  v45 := Tryz.zeroValue206
  i45 := by kernel_rfl }
open Go.RowKit Go.Lib Go.Sort in
theorem Tryz.siftDown_iface {α : Type} [Inhabited α] (T : TypeId) (rv : Value) (gl gs : Nat) (rL : Reaches Tryz.prog T rv "Less" gl) (rS : Reaches Tryz.prog T rv "Swap" gs) (enc : α → Value) (lt : α → α → Bool) (blk off lo hi first : Nat) (d : Array α) (w : World) (hless : LessM Tryz.prog gl rv enc lt blk off d.size w) (hswap : SwapM Tryz.prog gs rv enc blk off d.size) (hH : Holds enc w blk off d) (hlo : lo ≤ hi) (hb : first + hi ≤ d.size) (hsz : d.size < 4611686018427387904) :
    Calls Tryz.prog 145 #[.iface T rv, .int .i64 lo, .int .i64 hi, .int .i64 first] w fun e w' =>
      e = .returned (.tuple #[]) ∧ ∃ n, w' = putRow enc (Sort.ahead w n) blk off (siftDown lt hi first lo d) := Any.siftDown_iface Tryz.laysGt43 T rv gl gs rL rS enc lt blk off lo hi first d w hless hswap hH hlo hb hsz
open Go.RowKit Go.Lib Go.Sort in
/-- sort.siftDown, from a world to a 'sortWorld' of it. (LAID: no walk: one application.) -/
theorem Tryz.siftDown_iface_w {α : Type} [Inhabited α] (T : TypeId) (rv : Value) (gl gs : Nat) (rL : Reaches Tryz.prog T rv "Less" gl) (rS : Reaches Tryz.prog T rv "Swap" gs) (enc : α → Value) (lt : α → α → Bool) (blk off lo hi first : Nat) (d : Array α) (w : World) (hless : LessM Tryz.prog gl rv enc lt blk off d.size w) (hswap : SwapM Tryz.prog gs rv enc blk off d.size) (hH : Holds enc w blk off d) (hlo : lo ≤ hi) (hb : first + hi ≤ d.size) (hsz : d.size < 4611686018427387904) :
    Calls Tryz.prog 145 #[.iface T rv, .int .i64 lo, .int .i64 hi, .int .i64 first] w fun e w' => e = .returned (.tuple #[]) ∧ ∃ n os, w' = sortWorld enc w blk off n (siftDown lt hi first lo d) os := Any.siftDown_iface_w Tryz.laysGt43 T rv gl gs rL rS enc lt blk off lo hi first d w hless hswap hH hlo hb hsz
def Tryz.laysGt34_ren : Go.Shelf.Ren := ⟨fun | 34 => 133 | 43 => 145 | n => n, fun | 45 => 206 | 3 => 3 | 4 => 4 | 0 => 0 | 43 => 207 | 26 => 232 | 38 => 247 | n => n, fun | n => n⟩
theorem Tryz.laysGt34 : Go.Proofs.LaysGt.n34 Tryz.prog Tryz.laysGt34_ren := {
  mixed := by kernel_rfl
  f34 := Tryz.func133.trans (congrArg some (by kernel_rfl))
  f43 := Tryz.func145.trans (congrArg some (by kernel_rfl))
  t0 := Tryz.underlying0
  a0 := Tryz.isAgg0
  z0 := Tryz.sizeOf0
  v0 := Tryz.zeroValue0
  i0 := by kernel_rfl
  t3 := Tryz.underlying3
  a3 := Tryz.isAgg3
  z3 := Tryz.sizeOf3
  v3 := Tryz.zeroValue3
  i3 := by kernel_rfl
  t4 := Tryz.underlying4
  a4 := Tryz.isAgg4
  z4 := Tryz.sizeOf4
  v4 := Tryz.zeroValue4
  i4 := by kernel_rfl
  t26 := Tryz.underlying232
  a26 := Tryz.isAgg232
  z26 := Tryz.sizeOf232
  v26 := Tryz.zeroValue232
  i26 := by kernel_rfl
  t38 := Tryz.underlying247
  a38 := Tryz.isAgg247
  z38 := Tryz.sizeOf247
  v38 := Tryz.zeroValue247
  i38 := by kernel_rfl
  t43 := Tryz.underlying207
  a43 := Tryz.isAgg207
  z43 := Tryz.sizeOf207
  v43 := Tryz.zeroValue207
  i43 := by kernel_rfl
  t45 := Tryz.underlying206
  a45 := Tryz.isAgg206
  z45 := Tryz.sizeOf206
  v45 := Tryz.zeroValue206
  i45 := by kernel_rfl }
open Go.RowKit Go.Lib Go.Sort in
theorem Tryz.heapSort_iface_w {α : Type} [Inhabited α] (T : TypeId) (rv : Value) (gl gs : Nat) (rL : Reaches Tryz.prog T rv "Less" gl) (rS : Reaches Tryz.prog T rv "Swap" gs) (enc : α → Value) (lt : α → α → Bool) (blk off a b : Nat) (d : Array α) (w : World) (hless : LessM Tryz.prog gl rv enc lt blk off d.size w) (hswap : SwapM Tryz.prog gs rv enc blk off d.size) (hH : Holds enc w blk off d) (hblk : blk < w.heap.size) (hab : a ≤ b) (hb : b ≤ d.size) (hsz : d.size < 4611686018427387904) :
    Calls Tryz.prog 133 #[.iface T rv, .int .i64 a, .int .i64 b] w fun e w' => e = .returned (.tuple #[]) ∧ ∃ n os, w' = sortWorld enc w blk off n (heapSort lt d a b) os := Any.heapSort_iface_w Tryz.laysGt34 T rv gl gs rL rS enc lt blk off a b d w hless hswap hH hblk hab hb hsz
def Tryz.laysGt38_ren : Go.Shelf.Ren := ⟨fun | 38 => 137 | n => n, fun | 45 => 206 | 3 => 3 | 4 => 4 | 0 => 0 | 43 => 207 | 26 => 232 | 38 => 247 | n => n, fun | n => n⟩
theorem Tryz.laysGt38 : Go.Proofs.LaysGt.n38 Tryz.prog Tryz.laysGt38_ren := {
  mixed := by kernel_rfl
  f38 := Tryz.func137.trans (congrArg some (by kernel_rfl))
  t0 := Tryz.underlying0
  a0 := Tryz.isAgg0
  z0 := Tryz.sizeOf0
  v0 := Tryz.zeroValue0
  i0 := by kernel_rfl
  t3 := Tryz.underlying3
  a3 := Tryz.isAgg3
  z3 := Tryz.sizeOf3
  v3 := Tryz.zeroValue3
  i3 := by kernel_rfl
  t4 := Tryz.underlying4
  a4 := Tryz.isAgg4
  z4 := Tryz.sizeOf4
  v4 := Tryz.zeroValue4
  i4 := by kernel_rfl
  t26 := Tryz.underlying232
  a26 := Tryz.isAgg232
  z26 := Tryz.sizeOf232
  v26 := Tryz.zeroValue232
  i26 := by kernel_rfl
  t38 := Tryz.underlying247
  a38 := Tryz.isAgg247
  z38 := Tryz.sizeOf247
  v38 := Tryz.zeroValue247
  i38 := by kernel_rfl
  t43 := Tryz.underlying207
  a43 := Tryz.isAgg207
  z43 := Tryz.sizeOf207
  v43 := Tryz.zeroValue207
  i43 := by kernel_rfl
  t45 := Tryz.underlying206
  a45 := Tryz.isAgg206
  z45 := Tryz.sizeOf206
  v45 := Tryz.zeroValue206
  i45 := by kernel_rfl }
open Go.RowKit Go.Lib Go.Sort in
theorem Tryz.partialInsertionSort_iface {α : Type} [Inhabited α] (T : TypeId) (rv : Value) (gl gs : Nat) (rL : Reaches Tryz.prog T rv "Less" gl) (rS : Reaches Tryz.prog T rv "Swap" gs) (enc : α → Value) (lt : α → α → Bool) (blk off a b : Nat) (d : Array α) (w : World) (hless : LessM Tryz.prog gl rv enc lt blk off d.size w) (hswap : SwapM Tryz.prog gs rv enc blk off d.size) (hH : Holds enc w blk off d) (hab : a < b) (hb : b ≤ d.size) (hsz : d.size < 4611686018427387904) :
    Calls Tryz.prog 137 #[.iface T rv, .int .i64 a, .int .i64 b] w fun e w' =>
      e = .returned (.bool (Sort.partialInsertionSort lt d a b).2) ∧ ∃ n, w' = putRow enc (Sort.ahead w n) blk off (Sort.partialInsertionSort lt d a b).1 := Any.partialInsertionSort_iface Tryz.laysGt38 T rv gl gs rL rS enc lt blk off a b d w hless hswap hH hab hb hsz
open Go.RowKit Go.Lib Go.Sort in
/-- sort.partialInsertionSort, from a world to a 'sortWorld' of it. (LAID: no walk: one application.) -/
theorem Tryz.partialInsertionSort_iface_w {α : Type} [Inhabited α] (T : TypeId) (rv : Value) (gl gs : Nat) (rL : Reaches Tryz.prog T rv "Less" gl) (rS : Reaches Tryz.prog T rv "Swap" gs) (enc : α → Value) (lt : α → α → Bool) (blk off a b : Nat) (d : Array α) (w : World) (hless : LessM Tryz.prog gl rv enc lt blk off d.size w) (hswap : SwapM Tryz.prog gs rv enc blk off d.size) (hH : Holds enc w blk off d) (hab : a < b) (hb : b ≤ d.size) (hsz : d.size < 4611686018427387904) :
    Calls Tryz.prog 137 #[.iface T rv, .int .i64 a, .int .i64 b] w fun e w' => e = .returned (.bool (Sort.partialInsertionSort lt d a b).2) ∧ ∃ n os, w' = sortWorld enc w blk off n (Sort.partialInsertionSort lt d a b).1 os := Any.partialInsertionSort_iface_w Tryz.laysGt38 T rv gl gs rL rS enc lt blk off a b d w hless hswap hH hab hb hsz
end Go.Proofs
