/- DERIVED: THE SHELF's CONTRACTS AT THIS DUMP, IN PLAIN WORDS (tools/lay-plain.mjs out of 'YtkhbmkccbhkolaaGreatDoorShelf.lean', which tools/lay-shelf.mjs wrote): THE SAME DECLARATIONS UNDER THE SAME NAMES: 'import', 'namespace', 'open', 'def', 'theorem' AND NOTHING ELSE: no command of the shelf's: FOR A HAND-IN. Each laying: the table of numbers ('.._ren') and one theorem, a field a fact of the dump's own or the kernel's comparison; each contract: ONE APPLICATION. strconv.Itoa, in the form of a printed function; the table that it reads. strconv.FormatUint and FormatInt at base 10: the decimal numeral. strconv.FormatUint in base 10, in the form of a printed function. -/
import Derived.Shelf.Strconv.Itoa0
import Derived.Shelf.Strconv.Itoa1
import Derived.Shelf.LaysM
import Derived.Shelf.Strconv.Itoa2
import Derived.Shelf.Strconv.Itoa3
import Derived.Shelf.Strconv.Itoa4
import Derived.Test.YtkhbmkccbhkolaaGreatDoorProg
import Derived.Test.YtkhbmkccbhkolaaGreatDoorM1
import Derived.Lib.Walk
import Derived.Lib.ItoaMem
import Derived.Lib.ItoaWalk
import Derived.Lib.AppendIntMem
import Derived.IntWalk
import Derived.BigCall
import Derived.BigGuard
import Derived.WalkKit
namespace Go.Proofs
open Go.Shelf
def Tryz.lays129_ren : Go.Shelf.Ren := ⟨fun | 129 => 49 | n => n, fun | 53 => 28 | 3 => 3 | 4 => 4 | 46 => 78 | 5 => 5 | 9 => 9 | n => n, fun | n => n⟩
theorem Tryz.lays129 : Go.Proofs.Lays.n129 Tryz.prog Tryz.lays129_ren := {
  mixed := by kernel_rfl
  f129 := Tryz.func49.trans (congrArg some (by kernel_rfl))
  t3 := Tryz.underlying3
  a3 := Tryz.isAgg3
  z3 := Tryz.sizeOf3
  v3 := Tryz.zeroValue3
  t4 := Tryz.underlying4
  a4 := Tryz.isAgg4
  z4 := Tryz.sizeOf4
  v4 := Tryz.zeroValue4
  t5 := Tryz.underlying5
  a5 := Tryz.isAgg5
  z5 := Tryz.sizeOf5
  v5 := Tryz.zeroValue5
  t9 := Tryz.underlying9
  a9 := Tryz.isAgg9
  z9 := Tryz.sizeOf9
  v9 := Tryz.zeroValue9
  t46 := Tryz.underlying78
  a46 := Tryz.isAgg78
  z46 := Tryz.sizeOf78
  v46 := Tryz.zeroValue78
  t53 := Tryz.underlying28
  a53 := Tryz.isAgg28
  z53 := Tryz.sizeOf28
  v53 := Tryz.zeroValue28 }
/-- bits.Len64: "Len64 returns the minimum number of bits required to represent x; the result is 0 for x == 0.": IT RETURNS 'Lib.bitLen x'; the world is as it was. ('h0', 'h1': x is a uint64.) (LAID: no walk: one application.) -/
theorem Tryz.bits_Len64 (x : Int) (w : World) (h0 : 0 ≤ x) (h1 : x ≤ 18446744073709551615) :
    Calls Tryz.prog 49 #[.int .u64 x] w fun e w' => e = .returned (.int .i64 (Lib.bitLen x.toNat)) ∧ w' = w := Any.bits_Len64 Tryz.lays129 x w h0 h1
def Tryz.lays317_ren : Go.Shelf.Ren := ⟨fun | 317 => 48 | n => n, fun | 3 => 3 | 46 => 78 | n => n, fun | n => n⟩
theorem Tryz.lays317 : Go.Proofs.Lays.n317 Tryz.prog Tryz.lays317_ren := {
  mixed := by kernel_rfl
  f317 := Tryz.func48.trans (congrArg some (by kernel_rfl))
  t3 := Tryz.underlying3
  a3 := Tryz.isAgg3
  z3 := Tryz.sizeOf3
  v3 := Tryz.zeroValue3
  t46 := Tryz.underlying78
  a46 := Tryz.isAgg78
  z46 := Tryz.sizeOf78
  v46 := Tryz.zeroValue78 }
open Go.Lib in
/-- internal/strconv.log10Pow2: "log10Pow2(x) returns ⌊log₁₀ 2**x⌋ = ⌊x * log₁₀ 2⌋.": '(x * 78913) >> 18', at an x up to 64 (a length in bits). The world is as it was. (LAID: no walk: one application.) -/
theorem Tryz.internal_strconv_log10Pow2 (x : Nat) (h : x ≤ 64) (w : World) :
    Calls Tryz.prog 48 #[.int .i64 x] w fun e w' => e = .returned (.int .i64 (Lib.l10 x)) ∧ w' = w := Any.internal_strconv_log10Pow2 Tryz.lays317 x h w
def Tryz.lays318_ren : Go.Shelf.Ren := ⟨fun | 318 => 50 | n => n, fun | 3 => 3 | 4 => 4 | n => n, fun | n => n⟩
theorem Tryz.lays318 : Go.Proofs.Lays.n318 Tryz.prog Tryz.lays318_ren := {
  mixed := by kernel_rfl
  f318 := Tryz.func50.trans (congrArg some (by kernel_rfl))
  t3 := Tryz.underlying3
  a3 := Tryz.isAgg3
  z3 := Tryz.sizeOf3
  v3 := Tryz.zeroValue3
  t4 := Tryz.underlying4
  a4 := Tryz.isAgg4
  z4 := Tryz.sizeOf4
  v4 := Tryz.zeroValue4 }
open Go.Lib in
/-- internal/strconv.bool2: "bool2 converts b to an integer: 1 for true, 0 for false." The world is as it was. (LAID: no walk: one application.) -/
theorem Tryz.internal_strconv_bool2_int (b : Bool) (w : World) :
    Calls Tryz.prog 50 #[.bool b] w fun e w' => e = .returned (.int .i64 (if b then 1 else 0)) ∧ w' = w := Any.internal_strconv_bool2_int Tryz.lays318 b w
def Tryz.lays283_ren : Go.Shelf.Ren := ⟨fun | 283 => 27 | n => n, fun | 3 => 3 | 9 => 9 | 4 => 4 | n => n, fun | n => n⟩
theorem Tryz.lays283 : Go.Proofs.Lays.n283 Tryz.prog Tryz.lays283_ren := {
  mixed := by kernel_rfl
  f283 := Tryz.func27.trans (congrArg some (by kernel_rfl))
  t3 := Tryz.underlying3
  a3 := Tryz.isAgg3
  z3 := Tryz.sizeOf3
  v3 := Tryz.zeroValue3
  t4 := Tryz.underlying4
  a4 := Tryz.isAgg4
  z4 := Tryz.sizeOf4
  v4 := Tryz.zeroValue4
  t9 := Tryz.underlying9
  a9 := Tryz.isAgg9
  z9 := Tryz.sizeOf9
  v9 := Tryz.zeroValue9 }
open Go.Lib in
/-- internal/strconv.small: "small returns the string for an i with 0 <= i < nSmalls.": i's decimal numeral. The world is as it was. (LAID: no walk: one application.) -/
theorem Tryz.internal_strconv_small (i : Nat) (h : i < 100) (w : World) :
    Calls Tryz.prog 27 #[.int .i64 i] w fun e w' => e = .returned (.string ⟨(Lib.decDigits i).toArray⟩) ∧ w' = w := Any.internal_strconv_small Tryz.lays283 i h w
def Tryz.laysM284_ren : Go.Shelf.Ren := ⟨fun | 284 => 28 | 129 => 49 | 317 => 48 | 318 => 50 | n => n, fun | 53 => 28 | 3 => 3 | 212 => 84 | 0 => 0 | 4 => 4 | 46 => 78 | 5 => 5 | 9 => 9 | n => n, fun | 17 => 1 | n => n⟩
theorem Tryz.laysM284 : Go.Proofs.LaysM.n284 Tryz.prog Tryz.laysM284_ren := {
  mixed := by kernel_rfl
  f129 := Tryz.func49.trans (congrArg some (by kernel_rfl))
  f284 := Tryz.func28.trans (congrArg some (by kernel_rfl))
  f317 := Tryz.func48.trans (congrArg some (by kernel_rfl))
  f318 := Tryz.func50.trans (congrArg some (by kernel_rfl))
  t0 := Tryz.underlying0
  a0 := Tryz.isAgg0
  z0 := Tryz.sizeOf0
  v0 := Tryz.zeroValue0
  t3 := Tryz.underlying3
  a3 := Tryz.isAgg3
  z3 := Tryz.sizeOf3
  v3 := Tryz.zeroValue3
  t4 := Tryz.underlying4
  a4 := Tryz.isAgg4
  z4 := Tryz.sizeOf4
  v4 := Tryz.zeroValue4
  t5 := Tryz.underlying5
  a5 := Tryz.isAgg5
  z5 := Tryz.sizeOf5
  v5 := Tryz.zeroValue5
  t9 := Tryz.underlying9
  a9 := Tryz.isAgg9
  z9 := Tryz.sizeOf9
  v9 := Tryz.zeroValue9
  t46 := Tryz.underlying78
  a46 := Tryz.isAgg78
  z46 := Tryz.sizeOf78
  v46 := Tryz.zeroValue78
  t53 := Tryz.underlying28
  a53 := Tryz.isAgg28
  z53 := Tryz.sizeOf28
  v53 := Tryz.zeroValue28
  t212 := Tryz.underlying84
  a212 := Tryz.isAgg84
  z212 := Tryz.sizeOf84
  v212 := Tryz.zeroValue84
  g17 := by kernel_rfl
  i0 := by kernel_rfl
  i3 := by kernel_rfl
  i4 := by kernel_rfl
  i5 := by kernel_rfl
  i9 := by kernel_rfl
  i46 := by kernel_rfl
  i53 := by kernel_rfl
  i212 := by kernel_rfl
  m17 := by kernel_rfl }
open Go.Lib in
/-- internal/strconv.numDigits, at a d that is not 0: THE NUMBER OF d's DECIMAL DIGITS. The world is as it was. (LAID: no walk: one application.) -/
theorem Tryz.internal_strconv_numDigits (u : Nat) (h1 : 1 ≤ u) (h2 : u < 18446744073709551616) (w : World) (htab : Lib.TabIs Tryz.prog w "internal/strconv.uint64pow10" .u64 Lib.pow10Tab) :
    Calls Tryz.prog 28 #[.int .u64 u] w fun e w' => e = .returned (.int .i64 (Lib.nDigits u)) ∧ w' = w := Any.internal_strconv_numDigits Tryz.laysM284 u h1 h2 w htab
def Tryz.lays285_ren : Go.Shelf.Ren := ⟨fun | 285 => 29 | n => n, fun | 37 => 60 | 53 => 28 | 3 => 3 | 4 => 4 | 51 => 85 | 9 => 9 | 5 => 5 | 0 => 0 | n => n, fun | n => n⟩
theorem Tryz.lays285 : Go.Proofs.Lays.n285 Tryz.prog Tryz.lays285_ren := {
  mixed := by kernel_rfl
  f285 := Tryz.func29.trans (congrArg some (by kernel_rfl))
  t0 := Tryz.underlying0
  a0 := Tryz.isAgg0
  z0 := Tryz.sizeOf0
  v0 := Tryz.zeroValue0
  t3 := Tryz.underlying3
  a3 := Tryz.isAgg3
  z3 := Tryz.sizeOf3
  v3 := Tryz.zeroValue3
  t4 := Tryz.underlying4
  a4 := Tryz.isAgg4
  z4 := Tryz.sizeOf4
  v4 := Tryz.zeroValue4
  t5 := Tryz.underlying5
  a5 := Tryz.isAgg5
  z5 := Tryz.sizeOf5
  v5 := Tryz.zeroValue5
  t9 := Tryz.underlying9
  a9 := Tryz.isAgg9
  z9 := Tryz.sizeOf9
  v9 := Tryz.zeroValue9
  t37 := Tryz.underlying60
  a37 := Tryz.isAgg60
  z37 := Tryz.sizeOf60
  v37 := Tryz.zeroValue60
  t51 := Tryz.underlying85
  a51 := Tryz.isAgg85
  z51 := Tryz.sizeOf85
  v51 := Tryz.zeroValue85
  t53 := Tryz.underlying28
  a53 := Tryz.isAgg28
  z53 := Tryz.sizeOf28
  v53 := Tryz.zeroValue28 }
open Go.RowKit Go.Sort Go.Lib in
/-- internal/strconv.formatBase10: "formatBase10 formats the decimal representation of u into a. The caller is responsible for ensuring that a is big enough to hold u. If a is too big, leading zeros will be filled in as needed.": THE ROW HOLDS u's DIGITS ('FmtInv .. 0 ..': every place t holds 'dg u (len - 1 - t)'); all else is as it was but for the count of draws. (LAID: no walk: one application.) -/
theorem Tryz.internal_strconv_formatBase10 (blk off cap : Nat) (u : Nat) (d : Array UInt8) (w : World) (hH : Holds (fun (b : UInt8) => Value.int .u8 (b.toNat : Int)) w blk off d) (hu : u < 10 ^ d.size) (hu64 : u < 18446744073709551616) (hsz : d.size < 4611686018427387904) :
    Calls Tryz.prog 29 #[.slice (some ⟨blk, off, none⟩) d.size cap, .int .u64 u] w fun e w' =>
      e = .returned (.tuple #[]) ∧ ∃ (n v' : Nat) (dk : Array UInt8), w' = (putRow (fun (b : UInt8) => Value.int .u8 (b.toNat : Int)) w blk off dk).drewN n ∧ FmtInv d.size u 0 v' dk := Any.internal_strconv_formatBase10 Tryz.lays285 blk off cap u d w hH hu hu64 hsz
def Tryz.laysM246_ren : Go.Shelf.Ren := ⟨fun | 246 => 75 | 283 => 27 | 284 => 28 | 285 => 29 | 286 => 30 | 129 => 49 | 317 => 48 | 318 => 50 | 319 => 51 | 320 => 52 | 337 => 63 | 338 => 64 | n => n, fun | 2 => 2 | 3 => 3 | 9 => 9 | 4 => 4 | 171 => 57 | 0 => 0 | 53 => 28 | 37 => 60 | 5 => 5 | 173 => 61 | 212 => 84 | 51 => 85 | 20 => 20 | 213 => 86 | 46 => 78 | 232 => 107 | 233 => 108 | n => n, fun | 17 => 1 | 18 => 4 | 19 => 5 | n => n⟩
theorem Tryz.laysM246 : Go.Proofs.LaysM.n246 Tryz.prog Tryz.laysM246_ren := {
  mixed := by kernel_rfl
  f129 := Tryz.func49.trans (congrArg some (by kernel_rfl))
  f246 := Tryz.func75.trans (congrArg some (by kernel_rfl))
  f283 := Tryz.func27.trans (congrArg some (by kernel_rfl))
  f284 := Tryz.func28.trans (congrArg some (by kernel_rfl))
  f285 := Tryz.func29.trans (congrArg some (by kernel_rfl))
  f286 := Tryz.func30.trans (congrArg some (by kernel_rfl))
  f317 := Tryz.func48.trans (congrArg some (by kernel_rfl))
  f318 := Tryz.func50.trans (congrArg some (by kernel_rfl))
  f319 := Tryz.func51.trans (congrArg some (by kernel_rfl))
  f320 := Tryz.func52.trans (congrArg some (by kernel_rfl))
  f337 := Tryz.func63.trans (congrArg some (by kernel_rfl))
  f338 := Tryz.func64.trans (congrArg some (by kernel_rfl))
  t0 := Tryz.underlying0
  a0 := Tryz.isAgg0
  z0 := Tryz.sizeOf0
  v0 := Tryz.zeroValue0
  t2 := Tryz.underlying2
  a2 := Tryz.isAgg2
  z2 := Tryz.sizeOf2
  v2 := Tryz.zeroValue2
  t3 := Tryz.underlying3
  a3 := Tryz.isAgg3
  z3 := Tryz.sizeOf3
  v3 := Tryz.zeroValue3
  t4 := Tryz.underlying4
  a4 := Tryz.isAgg4
  z4 := Tryz.sizeOf4
  v4 := Tryz.zeroValue4
  t5 := Tryz.underlying5
  a5 := Tryz.isAgg5
  z5 := Tryz.sizeOf5
  v5 := Tryz.zeroValue5
  t9 := Tryz.underlying9
  a9 := Tryz.isAgg9
  z9 := Tryz.sizeOf9
  v9 := Tryz.zeroValue9
  t20 := Tryz.underlying20
  a20 := Tryz.isAgg20
  z20 := Tryz.sizeOf20
  v20 := Tryz.zeroValue20
  t37 := Tryz.underlying60
  a37 := Tryz.isAgg60
  z37 := Tryz.sizeOf60
  v37 := Tryz.zeroValue60
  t46 := Tryz.underlying78
  a46 := Tryz.isAgg78
  z46 := Tryz.sizeOf78
  v46 := Tryz.zeroValue78
  t51 := Tryz.underlying85
  a51 := Tryz.isAgg85
  z51 := Tryz.sizeOf85
  v51 := Tryz.zeroValue85
  t53 := Tryz.underlying28
  a53 := Tryz.isAgg28
  z53 := Tryz.sizeOf28
  v53 := Tryz.zeroValue28
  t171 := Tryz.underlying57
  a171 := Tryz.isAgg57
  z171 := Tryz.sizeOf57
  v171 := Tryz.zeroValue57
  t173 := Tryz.underlying61
  a173 := Tryz.isAgg61
  z173 := Tryz.sizeOf61
  v173 := Tryz.zeroValue61
  t212 := Tryz.underlying84
  a212 := Tryz.isAgg84
  z212 := Tryz.sizeOf84
  v212 := Tryz.zeroValue84
  t213 := Tryz.underlying86
  a213 := Tryz.isAgg86
  z213 := Tryz.sizeOf86
  t232 := Tryz.underlying107
  a232 := Tryz.isAgg107
  z232 := Tryz.sizeOf107
  v232 := Tryz.zeroValue107
  t233 := Tryz.underlying108
  a233 := Tryz.isAgg108
  z233 := Tryz.sizeOf108
  v233 := Tryz.zeroValue108
  g17 := by kernel_rfl
  g18 := by kernel_rfl
  g19 := by kernel_rfl
  i0 := by kernel_rfl
  i2 := by kernel_rfl
  i3 := by kernel_rfl
  i4 := by kernel_rfl
  i5 := by kernel_rfl
  i9 := by kernel_rfl
  i20 := by kernel_rfl
  i37 := by kernel_rfl
  i46 := by kernel_rfl
  i51 := by kernel_rfl
  i53 := by kernel_rfl
  i171 := by kernel_rfl
  i173 := by kernel_rfl
  i212 := by kernel_rfl
  i232 := by kernel_rfl
  i233 := by kernel_rfl
  m17 := by kernel_rfl
  m18 := by kernel_rfl
  m19 := by kernel_rfl }
open Go.RowKit Go.Sort Go.Lib in
/-- internal/strconv.FormatInt: "FormatInt returns the string representation of i in the given base": AT BASE 10: i's decimal numeral, for every int64. The world behind the call: the world before it, new blocks behind the heap, draws. (LAID: no walk: one application.) -/
theorem Tryz.internal_strconv_FormatInt_10 (n : Int) (h0 : -9223372036854775808 ≤ n) (h1 : n ≤ 9223372036854775807) (w : World) (htab : Lib.TabIs Tryz.prog w "internal/strconv.uint64pow10" .u64 Lib.pow10Tab) :
    Calls Tryz.prog 75 #[.int .i64 n, .int .i64 10] w fun e w' => e = .returned (.string ⟨(Lib.itoa n).toArray⟩) ∧ ∃ k os, w' = grow (w.drewN k) os := Any.internal_strconv_FormatInt_10 Tryz.laysM246 n h0 h1 w htab
def Tryz.lays246_ren : Go.Shelf.Ren := ⟨fun | 246 => 75 | 283 => 27 | 284 => 28 | 285 => 29 | 286 => 30 | 129 => 49 | 317 => 48 | 318 => 50 | 319 => 51 | 320 => 52 | 337 => 63 | 338 => 64 | n => n, fun | 2 => 2 | 3 => 3 | 9 => 9 | 4 => 4 | 171 => 57 | 0 => 0 | 53 => 28 | 37 => 60 | 5 => 5 | 173 => 61 | 212 => 84 | 51 => 85 | 20 => 20 | 213 => 86 | 46 => 78 | 232 => 107 | 233 => 108 | n => n, fun | 17 => 1 | 18 => 4 | 19 => 5 | n => n⟩
theorem Tryz.lays246 : Go.Proofs.Lays.n246 Tryz.prog Tryz.lays246_ren := {
  mixed := by kernel_rfl
  f129 := Tryz.func49.trans (congrArg some (by kernel_rfl))
  f246 := Tryz.func75.trans (congrArg some (by kernel_rfl))
  f283 := Tryz.func27.trans (congrArg some (by kernel_rfl))
  f284 := Tryz.func28.trans (congrArg some (by kernel_rfl))
  f285 := Tryz.func29.trans (congrArg some (by kernel_rfl))
  f286 := Tryz.func30.trans (congrArg some (by kernel_rfl))
  f317 := Tryz.func48.trans (congrArg some (by kernel_rfl))
  f318 := Tryz.func50.trans (congrArg some (by kernel_rfl))
  f319 := Tryz.func51.trans (congrArg some (by kernel_rfl))
  f320 := Tryz.func52.trans (congrArg some (by kernel_rfl))
  f337 := Tryz.func63.trans (congrArg some (by kernel_rfl))
  f338 := Tryz.func64.trans (congrArg some (by kernel_rfl))
  t0 := Tryz.underlying0
  a0 := Tryz.isAgg0
  z0 := Tryz.sizeOf0
  v0 := Tryz.zeroValue0
  t2 := Tryz.underlying2
  a2 := Tryz.isAgg2
  z2 := Tryz.sizeOf2
  v2 := Tryz.zeroValue2
  t3 := Tryz.underlying3
  a3 := Tryz.isAgg3
  z3 := Tryz.sizeOf3
  v3 := Tryz.zeroValue3
  t4 := Tryz.underlying4
  a4 := Tryz.isAgg4
  z4 := Tryz.sizeOf4
  v4 := Tryz.zeroValue4
  t5 := Tryz.underlying5
  a5 := Tryz.isAgg5
  z5 := Tryz.sizeOf5
  v5 := Tryz.zeroValue5
  t9 := Tryz.underlying9
  a9 := Tryz.isAgg9
  z9 := Tryz.sizeOf9
  v9 := Tryz.zeroValue9
  t20 := Tryz.underlying20
  a20 := Tryz.isAgg20
  z20 := Tryz.sizeOf20
  v20 := Tryz.zeroValue20
  t37 := Tryz.underlying60
  a37 := Tryz.isAgg60
  z37 := Tryz.sizeOf60
  v37 := Tryz.zeroValue60
  t46 := Tryz.underlying78
  a46 := Tryz.isAgg78
  z46 := Tryz.sizeOf78
  v46 := Tryz.zeroValue78
  t51 := Tryz.underlying85
  a51 := Tryz.isAgg85
  z51 := Tryz.sizeOf85
  v51 := Tryz.zeroValue85
  t53 := Tryz.underlying28
  a53 := Tryz.isAgg28
  z53 := Tryz.sizeOf28
  v53 := Tryz.zeroValue28
  t171 := Tryz.underlying57
  a171 := Tryz.isAgg57
  z171 := Tryz.sizeOf57
  v171 := Tryz.zeroValue57
  t173 := Tryz.underlying61
  a173 := Tryz.isAgg61
  z173 := Tryz.sizeOf61
  v173 := Tryz.zeroValue61
  t212 := Tryz.underlying84
  a212 := Tryz.isAgg84
  z212 := Tryz.sizeOf84
  v212 := Tryz.zeroValue84
  t213 := Tryz.underlying86
  a213 := Tryz.isAgg86
  z213 := Tryz.sizeOf86
  t232 := Tryz.underlying107
  a232 := Tryz.isAgg107
  z232 := Tryz.sizeOf107
  v232 := Tryz.zeroValue107
  t233 := Tryz.underlying108
  a233 := Tryz.isAgg108
  z233 := Tryz.sizeOf108
  v233 := Tryz.zeroValue108
  g17 := by kernel_rfl
  g18 := by kernel_rfl
  g19 := by kernel_rfl }
open Go.RowKit Go.Sort Go.Lib in
/-- THE ROAD WITHOUT THE TABLE: 0 <= i < 100: two constants are read, nothing is laid: no premise on the world, and the world is as it was. (LAID: no walk: one application.) -/
theorem Tryz.internal_strconv_FormatInt_10_small (i : Nat) (hi : i < 100) (w : World) :
    Calls Tryz.prog 75 #[.int .i64 i, .int .i64 10] w fun e w' => e = .returned (.string ⟨(Lib.decDigits i).toArray⟩) ∧ w' = w := Any.internal_strconv_FormatInt_10_small Tryz.lays246 i hi w
def Tryz.laysM243_ren : Go.Shelf.Ren := ⟨fun | 243 => 59 | 246 => 75 | 283 => 27 | 284 => 28 | 285 => 29 | 286 => 30 | 129 => 49 | 317 => 48 | 318 => 50 | 319 => 51 | 320 => 52 | 337 => 63 | 338 => 64 | n => n, fun | 3 => 3 | 9 => 9 | 2 => 2 | 4 => 4 | 171 => 57 | 0 => 0 | 53 => 28 | 37 => 60 | 5 => 5 | 173 => 61 | 212 => 84 | 51 => 85 | 20 => 20 | 213 => 86 | 46 => 78 | 232 => 107 | 233 => 108 | n => n, fun | 17 => 1 | 18 => 4 | 19 => 5 | n => n⟩
theorem Tryz.laysM243 : Go.Proofs.LaysM.n243 Tryz.prog Tryz.laysM243_ren := {
  mixed := by kernel_rfl
  f129 := Tryz.func49.trans (congrArg some (by kernel_rfl))
  f243 := Tryz.func59.trans (congrArg some (by kernel_rfl))
  f246 := Tryz.func75.trans (congrArg some (by kernel_rfl))
  f283 := Tryz.func27.trans (congrArg some (by kernel_rfl))
  f284 := Tryz.func28.trans (congrArg some (by kernel_rfl))
  f285 := Tryz.func29.trans (congrArg some (by kernel_rfl))
  f286 := Tryz.func30.trans (congrArg some (by kernel_rfl))
  f317 := Tryz.func48.trans (congrArg some (by kernel_rfl))
  f318 := Tryz.func50.trans (congrArg some (by kernel_rfl))
  f319 := Tryz.func51.trans (congrArg some (by kernel_rfl))
  f320 := Tryz.func52.trans (congrArg some (by kernel_rfl))
  f337 := Tryz.func63.trans (congrArg some (by kernel_rfl))
  f338 := Tryz.func64.trans (congrArg some (by kernel_rfl))
  t0 := Tryz.underlying0
  a0 := Tryz.isAgg0
  z0 := Tryz.sizeOf0
  v0 := Tryz.zeroValue0
  t2 := Tryz.underlying2
  a2 := Tryz.isAgg2
  z2 := Tryz.sizeOf2
  v2 := Tryz.zeroValue2
  t3 := Tryz.underlying3
  a3 := Tryz.isAgg3
  z3 := Tryz.sizeOf3
  v3 := Tryz.zeroValue3
  t4 := Tryz.underlying4
  a4 := Tryz.isAgg4
  z4 := Tryz.sizeOf4
  v4 := Tryz.zeroValue4
  t5 := Tryz.underlying5
  a5 := Tryz.isAgg5
  z5 := Tryz.sizeOf5
  v5 := Tryz.zeroValue5
  t9 := Tryz.underlying9
  a9 := Tryz.isAgg9
  z9 := Tryz.sizeOf9
  v9 := Tryz.zeroValue9
  t20 := Tryz.underlying20
  a20 := Tryz.isAgg20
  z20 := Tryz.sizeOf20
  v20 := Tryz.zeroValue20
  t37 := Tryz.underlying60
  a37 := Tryz.isAgg60
  z37 := Tryz.sizeOf60
  v37 := Tryz.zeroValue60
  t46 := Tryz.underlying78
  a46 := Tryz.isAgg78
  z46 := Tryz.sizeOf78
  v46 := Tryz.zeroValue78
  t51 := Tryz.underlying85
  a51 := Tryz.isAgg85
  z51 := Tryz.sizeOf85
  v51 := Tryz.zeroValue85
  t53 := Tryz.underlying28
  a53 := Tryz.isAgg28
  z53 := Tryz.sizeOf28
  v53 := Tryz.zeroValue28
  t171 := Tryz.underlying57
  a171 := Tryz.isAgg57
  z171 := Tryz.sizeOf57
  v171 := Tryz.zeroValue57
  t173 := Tryz.underlying61
  a173 := Tryz.isAgg61
  z173 := Tryz.sizeOf61
  v173 := Tryz.zeroValue61
  t212 := Tryz.underlying84
  a212 := Tryz.isAgg84
  z212 := Tryz.sizeOf84
  v212 := Tryz.zeroValue84
  t213 := Tryz.underlying86
  a213 := Tryz.isAgg86
  z213 := Tryz.sizeOf86
  t232 := Tryz.underlying107
  a232 := Tryz.isAgg107
  z232 := Tryz.sizeOf107
  v232 := Tryz.zeroValue107
  t233 := Tryz.underlying108
  a233 := Tryz.isAgg108
  z233 := Tryz.sizeOf108
  v233 := Tryz.zeroValue108
  g17 := by kernel_rfl
  g18 := by kernel_rfl
  g19 := by kernel_rfl
  i0 := by kernel_rfl
  i2 := by kernel_rfl
  i3 := by kernel_rfl
  i4 := by kernel_rfl
  i5 := by kernel_rfl
  i9 := by kernel_rfl
  i20 := by kernel_rfl
  i37 := by kernel_rfl
  i46 := by kernel_rfl
  i51 := by kernel_rfl
  i53 := by kernel_rfl
  i171 := by kernel_rfl
  i173 := by kernel_rfl
  i212 := by kernel_rfl
  i232 := by kernel_rfl
  i233 := by kernel_rfl
  m17 := by kernel_rfl
  m18 := by kernel_rfl
  m19 := by kernel_rfl }
open Go.RowKit Go.Sort Go.Lib in
/-- internal/strconv.Itoa: "Itoa is equivalent to FormatInt(int64(i), 10).": i's decimal numeral, for every int. (LAID: no walk: one application.) -/
theorem Tryz.internal_strconv_Itoa (n : Int) (h0 : -9223372036854775808 ≤ n) (h1 : n ≤ 9223372036854775807) (w : World) (htab : Lib.TabIs Tryz.prog w "internal/strconv.uint64pow10" .u64 Lib.pow10Tab) :
    Calls Tryz.prog 59 #[.int .i64 n] w fun e w' => e = .returned (.string ⟨(Lib.itoa n).toArray⟩) ∧ ∃ k os, w' = grow (w.drewN k) os := Any.internal_strconv_Itoa Tryz.laysM243 n h0 h1 w htab
def Tryz.lays243_ren : Go.Shelf.Ren := ⟨fun | 243 => 59 | 246 => 75 | 283 => 27 | 284 => 28 | 285 => 29 | 286 => 30 | 129 => 49 | 317 => 48 | 318 => 50 | 319 => 51 | 320 => 52 | 337 => 63 | 338 => 64 | n => n, fun | 3 => 3 | 9 => 9 | 2 => 2 | 4 => 4 | 171 => 57 | 0 => 0 | 53 => 28 | 37 => 60 | 5 => 5 | 173 => 61 | 212 => 84 | 51 => 85 | 20 => 20 | 213 => 86 | 46 => 78 | 232 => 107 | 233 => 108 | n => n, fun | 17 => 1 | 18 => 4 | 19 => 5 | n => n⟩
theorem Tryz.lays243 : Go.Proofs.Lays.n243 Tryz.prog Tryz.lays243_ren := {
  mixed := by kernel_rfl
  f129 := Tryz.func49.trans (congrArg some (by kernel_rfl))
  f243 := Tryz.func59.trans (congrArg some (by kernel_rfl))
  f246 := Tryz.func75.trans (congrArg some (by kernel_rfl))
  f283 := Tryz.func27.trans (congrArg some (by kernel_rfl))
  f284 := Tryz.func28.trans (congrArg some (by kernel_rfl))
  f285 := Tryz.func29.trans (congrArg some (by kernel_rfl))
  f286 := Tryz.func30.trans (congrArg some (by kernel_rfl))
  f317 := Tryz.func48.trans (congrArg some (by kernel_rfl))
  f318 := Tryz.func50.trans (congrArg some (by kernel_rfl))
  f319 := Tryz.func51.trans (congrArg some (by kernel_rfl))
  f320 := Tryz.func52.trans (congrArg some (by kernel_rfl))
  f337 := Tryz.func63.trans (congrArg some (by kernel_rfl))
  f338 := Tryz.func64.trans (congrArg some (by kernel_rfl))
  t0 := Tryz.underlying0
  a0 := Tryz.isAgg0
  z0 := Tryz.sizeOf0
  v0 := Tryz.zeroValue0
  t2 := Tryz.underlying2
  a2 := Tryz.isAgg2
  z2 := Tryz.sizeOf2
  v2 := Tryz.zeroValue2
  t3 := Tryz.underlying3
  a3 := Tryz.isAgg3
  z3 := Tryz.sizeOf3
  v3 := Tryz.zeroValue3
  t4 := Tryz.underlying4
  a4 := Tryz.isAgg4
  z4 := Tryz.sizeOf4
  v4 := Tryz.zeroValue4
  t5 := Tryz.underlying5
  a5 := Tryz.isAgg5
  z5 := Tryz.sizeOf5
  v5 := Tryz.zeroValue5
  t9 := Tryz.underlying9
  a9 := Tryz.isAgg9
  z9 := Tryz.sizeOf9
  v9 := Tryz.zeroValue9
  t20 := Tryz.underlying20
  a20 := Tryz.isAgg20
  z20 := Tryz.sizeOf20
  v20 := Tryz.zeroValue20
  t37 := Tryz.underlying60
  a37 := Tryz.isAgg60
  z37 := Tryz.sizeOf60
  v37 := Tryz.zeroValue60
  t46 := Tryz.underlying78
  a46 := Tryz.isAgg78
  z46 := Tryz.sizeOf78
  v46 := Tryz.zeroValue78
  t51 := Tryz.underlying85
  a51 := Tryz.isAgg85
  z51 := Tryz.sizeOf85
  v51 := Tryz.zeroValue85
  t53 := Tryz.underlying28
  a53 := Tryz.isAgg28
  z53 := Tryz.sizeOf28
  v53 := Tryz.zeroValue28
  t171 := Tryz.underlying57
  a171 := Tryz.isAgg57
  z171 := Tryz.sizeOf57
  v171 := Tryz.zeroValue57
  t173 := Tryz.underlying61
  a173 := Tryz.isAgg61
  z173 := Tryz.sizeOf61
  v173 := Tryz.zeroValue61
  t212 := Tryz.underlying84
  a212 := Tryz.isAgg84
  z212 := Tryz.sizeOf84
  v212 := Tryz.zeroValue84
  t213 := Tryz.underlying86
  a213 := Tryz.isAgg86
  z213 := Tryz.sizeOf86
  t232 := Tryz.underlying107
  a232 := Tryz.isAgg107
  z232 := Tryz.sizeOf107
  v232 := Tryz.zeroValue107
  t233 := Tryz.underlying108
  a233 := Tryz.isAgg108
  z233 := Tryz.sizeOf108
  v233 := Tryz.zeroValue108
  g17 := by kernel_rfl
  g18 := by kernel_rfl
  g19 := by kernel_rfl }
open Go.RowKit Go.Sort Go.Lib in
/-- THE ROAD WITHOUT THE TABLE: 0 <= i < 100. (LAID: no walk: one application.) -/
theorem Tryz.internal_strconv_Itoa_small (i : Nat) (hi : i < 100) (w : World) :
    Calls Tryz.prog 59 #[.int .i64 i] w fun e w' => e = .returned (.string ⟨(Lib.decDigits i).toArray⟩) ∧ w' = w := Any.internal_strconv_Itoa_small Tryz.lays243 i hi w
def Tryz.laysM171_ren : Go.Shelf.Ren := ⟨fun | 171 => 43 | 243 => 59 | 246 => 75 | 283 => 27 | 284 => 28 | 285 => 29 | 286 => 30 | 129 => 49 | 317 => 48 | 318 => 50 | 319 => 51 | 320 => 52 | 337 => 63 | 338 => 64 | n => n, fun | 3 => 3 | 9 => 9 | 2 => 2 | 4 => 4 | 171 => 57 | 0 => 0 | 53 => 28 | 37 => 60 | 5 => 5 | 173 => 61 | 212 => 84 | 51 => 85 | 20 => 20 | 213 => 86 | 46 => 78 | 232 => 107 | 233 => 108 | n => n, fun | 17 => 1 | 18 => 4 | 19 => 5 | n => n⟩
theorem Tryz.laysM171 : Go.Proofs.LaysM.n171 Tryz.prog Tryz.laysM171_ren := {
  mixed := by kernel_rfl
  f129 := Tryz.func49.trans (congrArg some (by kernel_rfl))
  f171 := Tryz.func43.trans (congrArg some (by kernel_rfl))
  f243 := Tryz.func59.trans (congrArg some (by kernel_rfl))
  f246 := Tryz.func75.trans (congrArg some (by kernel_rfl))
  f283 := Tryz.func27.trans (congrArg some (by kernel_rfl))
  f284 := Tryz.func28.trans (congrArg some (by kernel_rfl))
  f285 := Tryz.func29.trans (congrArg some (by kernel_rfl))
  f286 := Tryz.func30.trans (congrArg some (by kernel_rfl))
  f317 := Tryz.func48.trans (congrArg some (by kernel_rfl))
  f318 := Tryz.func50.trans (congrArg some (by kernel_rfl))
  f319 := Tryz.func51.trans (congrArg some (by kernel_rfl))
  f320 := Tryz.func52.trans (congrArg some (by kernel_rfl))
  f337 := Tryz.func63.trans (congrArg some (by kernel_rfl))
  f338 := Tryz.func64.trans (congrArg some (by kernel_rfl))
  t0 := Tryz.underlying0
  a0 := Tryz.isAgg0
  z0 := Tryz.sizeOf0
  v0 := Tryz.zeroValue0
  t2 := Tryz.underlying2
  a2 := Tryz.isAgg2
  z2 := Tryz.sizeOf2
  v2 := Tryz.zeroValue2
  t3 := Tryz.underlying3
  a3 := Tryz.isAgg3
  z3 := Tryz.sizeOf3
  v3 := Tryz.zeroValue3
  t4 := Tryz.underlying4
  a4 := Tryz.isAgg4
  z4 := Tryz.sizeOf4
  v4 := Tryz.zeroValue4
  t5 := Tryz.underlying5
  a5 := Tryz.isAgg5
  z5 := Tryz.sizeOf5
  v5 := Tryz.zeroValue5
  t9 := Tryz.underlying9
  a9 := Tryz.isAgg9
  z9 := Tryz.sizeOf9
  v9 := Tryz.zeroValue9
  t20 := Tryz.underlying20
  a20 := Tryz.isAgg20
  z20 := Tryz.sizeOf20
  v20 := Tryz.zeroValue20
  t37 := Tryz.underlying60
  a37 := Tryz.isAgg60
  z37 := Tryz.sizeOf60
  v37 := Tryz.zeroValue60
  t46 := Tryz.underlying78
  a46 := Tryz.isAgg78
  z46 := Tryz.sizeOf78
  v46 := Tryz.zeroValue78
  t51 := Tryz.underlying85
  a51 := Tryz.isAgg85
  z51 := Tryz.sizeOf85
  v51 := Tryz.zeroValue85
  t53 := Tryz.underlying28
  a53 := Tryz.isAgg28
  z53 := Tryz.sizeOf28
  v53 := Tryz.zeroValue28
  t171 := Tryz.underlying57
  a171 := Tryz.isAgg57
  z171 := Tryz.sizeOf57
  v171 := Tryz.zeroValue57
  t173 := Tryz.underlying61
  a173 := Tryz.isAgg61
  z173 := Tryz.sizeOf61
  v173 := Tryz.zeroValue61
  t212 := Tryz.underlying84
  a212 := Tryz.isAgg84
  z212 := Tryz.sizeOf84
  v212 := Tryz.zeroValue84
  t213 := Tryz.underlying86
  a213 := Tryz.isAgg86
  z213 := Tryz.sizeOf86
  t232 := Tryz.underlying107
  a232 := Tryz.isAgg107
  z232 := Tryz.sizeOf107
  v232 := Tryz.zeroValue107
  t233 := Tryz.underlying108
  a233 := Tryz.isAgg108
  z233 := Tryz.sizeOf108
  v233 := Tryz.zeroValue108
  g17 := by kernel_rfl
  g18 := by kernel_rfl
  g19 := by kernel_rfl
  i0 := by kernel_rfl
  i2 := by kernel_rfl
  i3 := by kernel_rfl
  i4 := by kernel_rfl
  i5 := by kernel_rfl
  i9 := by kernel_rfl
  i20 := by kernel_rfl
  i37 := by kernel_rfl
  i46 := by kernel_rfl
  i51 := by kernel_rfl
  i53 := by kernel_rfl
  i171 := by kernel_rfl
  i173 := by kernel_rfl
  i212 := by kernel_rfl
  i232 := by kernel_rfl
  i233 := by kernel_rfl
  m17 := by kernel_rfl
  m18 := by kernel_rfl
  m19 := by kernel_rfl }
open Go.RowKit Go.Sort Go.Lib in
/-- strconv.Itoa: "Itoa is equivalent to FormatInt(int64(i), 10).": i's DECIMAL NUMERAL ('Lib.itoa': a '-' where i is negative, then the digits), FOR EVERY int. The world behind the call: the world before it, new blocks behind the heap (the library's 'var a [24]byte'), draws. (LAID: no walk: one application.) -/
theorem Tryz.strconv_Itoa (n : Int) (h0 : -9223372036854775808 ≤ n) (h1 : n ≤ 9223372036854775807) (w : World) (htab : Lib.TabIs Tryz.prog w "internal/strconv.uint64pow10" .u64 Lib.pow10Tab) :
    Calls Tryz.prog 43 #[.int .i64 n] w fun e w' => e = .returned (.string ⟨(Lib.itoa n).toArray⟩) ∧ ∃ k os, w' = grow (w.drewN k) os := Any.strconv_Itoa Tryz.laysM171 n h0 h1 w htab
def Tryz.lays171_ren : Go.Shelf.Ren := ⟨fun | 171 => 43 | 243 => 59 | 246 => 75 | 283 => 27 | 284 => 28 | 285 => 29 | 286 => 30 | 129 => 49 | 317 => 48 | 318 => 50 | 319 => 51 | 320 => 52 | 337 => 63 | 338 => 64 | n => n, fun | 3 => 3 | 9 => 9 | 2 => 2 | 4 => 4 | 171 => 57 | 0 => 0 | 53 => 28 | 37 => 60 | 5 => 5 | 173 => 61 | 212 => 84 | 51 => 85 | 20 => 20 | 213 => 86 | 46 => 78 | 232 => 107 | 233 => 108 | n => n, fun | 17 => 1 | 18 => 4 | 19 => 5 | n => n⟩
theorem Tryz.lays171 : Go.Proofs.Lays.n171 Tryz.prog Tryz.lays171_ren := {
  mixed := by kernel_rfl
  f129 := Tryz.func49.trans (congrArg some (by kernel_rfl))
  f171 := Tryz.func43.trans (congrArg some (by kernel_rfl))
  f243 := Tryz.func59.trans (congrArg some (by kernel_rfl))
  f246 := Tryz.func75.trans (congrArg some (by kernel_rfl))
  f283 := Tryz.func27.trans (congrArg some (by kernel_rfl))
  f284 := Tryz.func28.trans (congrArg some (by kernel_rfl))
  f285 := Tryz.func29.trans (congrArg some (by kernel_rfl))
  f286 := Tryz.func30.trans (congrArg some (by kernel_rfl))
  f317 := Tryz.func48.trans (congrArg some (by kernel_rfl))
  f318 := Tryz.func50.trans (congrArg some (by kernel_rfl))
  f319 := Tryz.func51.trans (congrArg some (by kernel_rfl))
  f320 := Tryz.func52.trans (congrArg some (by kernel_rfl))
  f337 := Tryz.func63.trans (congrArg some (by kernel_rfl))
  f338 := Tryz.func64.trans (congrArg some (by kernel_rfl))
  t0 := Tryz.underlying0
  a0 := Tryz.isAgg0
  z0 := Tryz.sizeOf0
  v0 := Tryz.zeroValue0
  t2 := Tryz.underlying2
  a2 := Tryz.isAgg2
  z2 := Tryz.sizeOf2
  v2 := Tryz.zeroValue2
  t3 := Tryz.underlying3
  a3 := Tryz.isAgg3
  z3 := Tryz.sizeOf3
  v3 := Tryz.zeroValue3
  t4 := Tryz.underlying4
  a4 := Tryz.isAgg4
  z4 := Tryz.sizeOf4
  v4 := Tryz.zeroValue4
  t5 := Tryz.underlying5
  a5 := Tryz.isAgg5
  z5 := Tryz.sizeOf5
  v5 := Tryz.zeroValue5
  t9 := Tryz.underlying9
  a9 := Tryz.isAgg9
  z9 := Tryz.sizeOf9
  v9 := Tryz.zeroValue9
  t20 := Tryz.underlying20
  a20 := Tryz.isAgg20
  z20 := Tryz.sizeOf20
  v20 := Tryz.zeroValue20
  t37 := Tryz.underlying60
  a37 := Tryz.isAgg60
  z37 := Tryz.sizeOf60
  v37 := Tryz.zeroValue60
  t46 := Tryz.underlying78
  a46 := Tryz.isAgg78
  z46 := Tryz.sizeOf78
  v46 := Tryz.zeroValue78
  t51 := Tryz.underlying85
  a51 := Tryz.isAgg85
  z51 := Tryz.sizeOf85
  v51 := Tryz.zeroValue85
  t53 := Tryz.underlying28
  a53 := Tryz.isAgg28
  z53 := Tryz.sizeOf28
  v53 := Tryz.zeroValue28
  t171 := Tryz.underlying57
  a171 := Tryz.isAgg57
  z171 := Tryz.sizeOf57
  v171 := Tryz.zeroValue57
  t173 := Tryz.underlying61
  a173 := Tryz.isAgg61
  z173 := Tryz.sizeOf61
  v173 := Tryz.zeroValue61
  t212 := Tryz.underlying84
  a212 := Tryz.isAgg84
  z212 := Tryz.sizeOf84
  v212 := Tryz.zeroValue84
  t213 := Tryz.underlying86
  a213 := Tryz.isAgg86
  z213 := Tryz.sizeOf86
  t232 := Tryz.underlying107
  a232 := Tryz.isAgg107
  z232 := Tryz.sizeOf107
  v232 := Tryz.zeroValue107
  t233 := Tryz.underlying108
  a233 := Tryz.isAgg108
  z233 := Tryz.sizeOf108
  v233 := Tryz.zeroValue108
  g17 := by kernel_rfl
  g18 := by kernel_rfl
  g19 := by kernel_rfl }
open Go.RowKit Go.Sort Go.Lib in
/-- THE ROAD WITHOUT THE TABLE: 0 <= i < 100: NO PREMISE ON THE WORLD, AND THE WORLD IS AS IT WAS: a row that keeps its argument in that range need list no table ('laid = []'). (LAID: no walk: one application.) -/
theorem Tryz.strconv_Itoa_small (i : Nat) (hi : i < 100) (w : World) :
    Calls Tryz.prog 43 #[.int .i64 i] w fun e w' => e = .returned (.string ⟨(Lib.decDigits i).toArray⟩) ∧ w' = w := Any.strconv_Itoa_small Tryz.lays171 i hi w
def Tryz.laysM173_ren : Go.Shelf.Ren := ⟨fun | 173 => 69 | 246 => 75 | 283 => 27 | 284 => 28 | 285 => 29 | 286 => 30 | 129 => 49 | 317 => 48 | 318 => 50 | 319 => 51 | 320 => 52 | 337 => 63 | 338 => 64 | n => n, fun | 2 => 2 | 3 => 3 | 9 => 9 | 4 => 4 | 171 => 57 | 0 => 0 | 53 => 28 | 37 => 60 | 5 => 5 | 173 => 61 | 212 => 84 | 51 => 85 | 20 => 20 | 213 => 86 | 46 => 78 | 232 => 107 | 233 => 108 | n => n, fun | 17 => 1 | 18 => 4 | 19 => 5 | n => n⟩
theorem Tryz.laysM173 : Go.Proofs.LaysM.n173 Tryz.prog Tryz.laysM173_ren := {
  mixed := by kernel_rfl
  f129 := Tryz.func49.trans (congrArg some (by kernel_rfl))
  f173 := Tryz.func69.trans (congrArg some (by kernel_rfl))
  f246 := Tryz.func75.trans (congrArg some (by kernel_rfl))
  f283 := Tryz.func27.trans (congrArg some (by kernel_rfl))
  f284 := Tryz.func28.trans (congrArg some (by kernel_rfl))
  f285 := Tryz.func29.trans (congrArg some (by kernel_rfl))
  f286 := Tryz.func30.trans (congrArg some (by kernel_rfl))
  f317 := Tryz.func48.trans (congrArg some (by kernel_rfl))
  f318 := Tryz.func50.trans (congrArg some (by kernel_rfl))
  f319 := Tryz.func51.trans (congrArg some (by kernel_rfl))
  f320 := Tryz.func52.trans (congrArg some (by kernel_rfl))
  f337 := Tryz.func63.trans (congrArg some (by kernel_rfl))
  f338 := Tryz.func64.trans (congrArg some (by kernel_rfl))
  t0 := Tryz.underlying0
  a0 := Tryz.isAgg0
  z0 := Tryz.sizeOf0
  v0 := Tryz.zeroValue0
  t2 := Tryz.underlying2
  a2 := Tryz.isAgg2
  z2 := Tryz.sizeOf2
  v2 := Tryz.zeroValue2
  t3 := Tryz.underlying3
  a3 := Tryz.isAgg3
  z3 := Tryz.sizeOf3
  v3 := Tryz.zeroValue3
  t4 := Tryz.underlying4
  a4 := Tryz.isAgg4
  z4 := Tryz.sizeOf4
  v4 := Tryz.zeroValue4
  t5 := Tryz.underlying5
  a5 := Tryz.isAgg5
  z5 := Tryz.sizeOf5
  v5 := Tryz.zeroValue5
  t9 := Tryz.underlying9
  a9 := Tryz.isAgg9
  z9 := Tryz.sizeOf9
  v9 := Tryz.zeroValue9
  t20 := Tryz.underlying20
  a20 := Tryz.isAgg20
  z20 := Tryz.sizeOf20
  v20 := Tryz.zeroValue20
  t37 := Tryz.underlying60
  a37 := Tryz.isAgg60
  z37 := Tryz.sizeOf60
  v37 := Tryz.zeroValue60
  t46 := Tryz.underlying78
  a46 := Tryz.isAgg78
  z46 := Tryz.sizeOf78
  v46 := Tryz.zeroValue78
  t51 := Tryz.underlying85
  a51 := Tryz.isAgg85
  z51 := Tryz.sizeOf85
  v51 := Tryz.zeroValue85
  t53 := Tryz.underlying28
  a53 := Tryz.isAgg28
  z53 := Tryz.sizeOf28
  v53 := Tryz.zeroValue28
  t171 := Tryz.underlying57
  a171 := Tryz.isAgg57
  z171 := Tryz.sizeOf57
  v171 := Tryz.zeroValue57
  t173 := Tryz.underlying61
  a173 := Tryz.isAgg61
  z173 := Tryz.sizeOf61
  v173 := Tryz.zeroValue61
  t212 := Tryz.underlying84
  a212 := Tryz.isAgg84
  z212 := Tryz.sizeOf84
  v212 := Tryz.zeroValue84
  t213 := Tryz.underlying86
  a213 := Tryz.isAgg86
  z213 := Tryz.sizeOf86
  t232 := Tryz.underlying107
  a232 := Tryz.isAgg107
  z232 := Tryz.sizeOf107
  v232 := Tryz.zeroValue107
  t233 := Tryz.underlying108
  a233 := Tryz.isAgg108
  z233 := Tryz.sizeOf108
  v233 := Tryz.zeroValue108
  g17 := by kernel_rfl
  g18 := by kernel_rfl
  g19 := by kernel_rfl
  i0 := by kernel_rfl
  i2 := by kernel_rfl
  i3 := by kernel_rfl
  i4 := by kernel_rfl
  i5 := by kernel_rfl
  i9 := by kernel_rfl
  i20 := by kernel_rfl
  i37 := by kernel_rfl
  i46 := by kernel_rfl
  i51 := by kernel_rfl
  i53 := by kernel_rfl
  i171 := by kernel_rfl
  i173 := by kernel_rfl
  i212 := by kernel_rfl
  i232 := by kernel_rfl
  i233 := by kernel_rfl
  m17 := by kernel_rfl
  m18 := by kernel_rfl
  m19 := by kernel_rfl }
open Go.RowKit Go.Sort Go.Lib in
/-- strconv.FormatInt: "FormatInt returns the string representation of i in the given base": AT BASE 10: i's decimal numeral, for every int64. (LAID: no walk: one application.) -/
theorem Tryz.strconv_FormatInt_10 (n : Int) (h0 : -9223372036854775808 ≤ n) (h1 : n ≤ 9223372036854775807) (w : World) (htab : Lib.TabIs Tryz.prog w "internal/strconv.uint64pow10" .u64 Lib.pow10Tab) :
    Calls Tryz.prog 69 #[.int .i64 n, .int .i64 10] w fun e w' => e = .returned (.string ⟨(Lib.itoa n).toArray⟩) ∧ ∃ k os, w' = grow (w.drewN k) os := Any.strconv_FormatInt_10 Tryz.laysM173 n h0 h1 w htab
def Tryz.lays173_ren : Go.Shelf.Ren := ⟨fun | 173 => 69 | 246 => 75 | 283 => 27 | 284 => 28 | 285 => 29 | 286 => 30 | 129 => 49 | 317 => 48 | 318 => 50 | 319 => 51 | 320 => 52 | 337 => 63 | 338 => 64 | n => n, fun | 2 => 2 | 3 => 3 | 9 => 9 | 4 => 4 | 171 => 57 | 0 => 0 | 53 => 28 | 37 => 60 | 5 => 5 | 173 => 61 | 212 => 84 | 51 => 85 | 20 => 20 | 213 => 86 | 46 => 78 | 232 => 107 | 233 => 108 | n => n, fun | 17 => 1 | 18 => 4 | 19 => 5 | n => n⟩
theorem Tryz.lays173 : Go.Proofs.Lays.n173 Tryz.prog Tryz.lays173_ren := {
  mixed := by kernel_rfl
  f129 := Tryz.func49.trans (congrArg some (by kernel_rfl))
  f173 := Tryz.func69.trans (congrArg some (by kernel_rfl))
  f246 := Tryz.func75.trans (congrArg some (by kernel_rfl))
  f283 := Tryz.func27.trans (congrArg some (by kernel_rfl))
  f284 := Tryz.func28.trans (congrArg some (by kernel_rfl))
  f285 := Tryz.func29.trans (congrArg some (by kernel_rfl))
  f286 := Tryz.func30.trans (congrArg some (by kernel_rfl))
  f317 := Tryz.func48.trans (congrArg some (by kernel_rfl))
  f318 := Tryz.func50.trans (congrArg some (by kernel_rfl))
  f319 := Tryz.func51.trans (congrArg some (by kernel_rfl))
  f320 := Tryz.func52.trans (congrArg some (by kernel_rfl))
  f337 := Tryz.func63.trans (congrArg some (by kernel_rfl))
  f338 := Tryz.func64.trans (congrArg some (by kernel_rfl))
  t0 := Tryz.underlying0
  a0 := Tryz.isAgg0
  z0 := Tryz.sizeOf0
  v0 := Tryz.zeroValue0
  t2 := Tryz.underlying2
  a2 := Tryz.isAgg2
  z2 := Tryz.sizeOf2
  v2 := Tryz.zeroValue2
  t3 := Tryz.underlying3
  a3 := Tryz.isAgg3
  z3 := Tryz.sizeOf3
  v3 := Tryz.zeroValue3
  t4 := Tryz.underlying4
  a4 := Tryz.isAgg4
  z4 := Tryz.sizeOf4
  v4 := Tryz.zeroValue4
  t5 := Tryz.underlying5
  a5 := Tryz.isAgg5
  z5 := Tryz.sizeOf5
  v5 := Tryz.zeroValue5
  t9 := Tryz.underlying9
  a9 := Tryz.isAgg9
  z9 := Tryz.sizeOf9
  v9 := Tryz.zeroValue9
  t20 := Tryz.underlying20
  a20 := Tryz.isAgg20
  z20 := Tryz.sizeOf20
  v20 := Tryz.zeroValue20
  t37 := Tryz.underlying60
  a37 := Tryz.isAgg60
  z37 := Tryz.sizeOf60
  v37 := Tryz.zeroValue60
  t46 := Tryz.underlying78
  a46 := Tryz.isAgg78
  z46 := Tryz.sizeOf78
  v46 := Tryz.zeroValue78
  t51 := Tryz.underlying85
  a51 := Tryz.isAgg85
  z51 := Tryz.sizeOf85
  v51 := Tryz.zeroValue85
  t53 := Tryz.underlying28
  a53 := Tryz.isAgg28
  z53 := Tryz.sizeOf28
  v53 := Tryz.zeroValue28
  t171 := Tryz.underlying57
  a171 := Tryz.isAgg57
  z171 := Tryz.sizeOf57
  v171 := Tryz.zeroValue57
  t173 := Tryz.underlying61
  a173 := Tryz.isAgg61
  z173 := Tryz.sizeOf61
  v173 := Tryz.zeroValue61
  t212 := Tryz.underlying84
  a212 := Tryz.isAgg84
  z212 := Tryz.sizeOf84
  v212 := Tryz.zeroValue84
  t213 := Tryz.underlying86
  a213 := Tryz.isAgg86
  z213 := Tryz.sizeOf86
  t232 := Tryz.underlying107
  a232 := Tryz.isAgg107
  z232 := Tryz.sizeOf107
  v232 := Tryz.zeroValue107
  t233 := Tryz.underlying108
  a233 := Tryz.isAgg108
  z233 := Tryz.sizeOf108
  v233 := Tryz.zeroValue108
  g17 := by kernel_rfl
  g18 := by kernel_rfl
  g19 := by kernel_rfl }
open Go.RowKit Go.Sort Go.Lib in
/-- THE ROAD WITHOUT THE TABLE: 0 <= i < 100. (LAID: no walk: one application.) -/
theorem Tryz.strconv_FormatInt_10_small (i : Nat) (hi : i < 100) (w : World) :
    Calls Tryz.prog 69 #[.int .i64 i, .int .i64 10] w fun e w' => e = .returned (.string ⟨(Lib.decDigits i).toArray⟩) ∧ w' = w := Any.strconv_FormatInt_10_small Tryz.lays173 i hi w
end Go.Proofs
namespace Go.Proofs.YtkhbmkccbhkolaaGreatDoor
set_option linter.unusedVariables false
set_option linter.unusedSimpArgs false
open Go.RowKit Go.Sort

/-- The library's table of powers of ten lies as the program's text lays it. -/
def StrIs (w : World) : Prop := Lib.TabIs Tryz.prog w "internal/strconv.uint64pow10" .u64 Lib.pow10Tab
theorem gPow : Tryz.prog.globalNamed "internal/strconv.uint64pow10" = some 1 := by kernel_rfl
theorem tab_below' {n : String} {g : Nat} (hg : Tryz.prog.globalNamed n = some g) {k : IntKind} {zs : List Int} {w w' : World} (h : Lib.TabIs Tryz.prog w n k zs) (hb : Below w.heap.size w w') : Lib.TabIs Tryz.prog w' n k zs := by
  unfold Lib.TabIs World.var? at h ⊢
  rw [hg] at h ⊢
  simp only [Option.bind_some] at h ⊢
  have hlt : g < w.heap.size := by
    rcases Nat.lt_or_ge g w.heap.size with h' | h'
    · exact h'
    · rw [Array.getElem?_eq_none h'] at h; cases h
  rw [hb.block g hlt]
  exact h
theorem StrIs.below {w w' : World} (h : StrIs w) (hb : Below w.heap.size w w') : StrIs w' := tab_below' gPow h hb
instance : Stays StrIs := ⟨fun h hb => h.below hb⟩
class HasStr (T : World → Prop) : Prop where
  str : ∀ {w : World}, T w → StrIs w
instance : HasStr StrIs := ⟨fun h => h⟩

theorem below_grow (w : World) (k : Nat) (os : Array Obj) : Below w.heap.size w (grow (w.drewN k) os) :=
  ⟨rfl, rfl, rfl, by show w.heap.size ≤ (w.heap ++ os).size; simp, fun i hi => by show (w.heap ++ os)[i]? = w.heap[i]?; rw [Array.getElem?_append_left hi]⟩

def strconv_Itoa.f (a0 : Int) : Option ByteArray :=
  if -9223372036854775808 ≤ a0 ∧ a0 ≤ 9223372036854775807 then some (bs (Lib.itoa a0)) else none
theorem strconv_Itoa.calls {T_ : World → Prop} [HasStr T_] (a0 : Int) (r : ByteArray) (w : World) (hT_ : T_ w) (h : strconv_Itoa.f a0 = some r) :
    Calls Tryz.prog 43 #[.int .i64 a0] w fun e w' => e = .returned (.string r) ∧ Below w.heap.size w w' := by
  unfold strconv_Itoa.f at h
  by_cases hs : -9223372036854775808 ≤ a0 ∧ a0 ≤ 9223372036854775807
  · rw [if_pos hs] at h
    injection h with h
    subst h
    refine (Tryz.strconv_Itoa a0 hs.1 hs.2 w (HasStr.str hT_)).mono ?_
    rintro e w' ⟨rfl, k, os, rfl⟩
    exact ⟨rfl, below_grow _ _ _⟩
  · rw [if_neg hs] at h; cases h
end Go.Proofs.YtkhbmkccbhkolaaGreatDoor
namespace Go.Proofs.YtkhbmkccbhkolaaGreatDoor
set_option linter.unusedVariables false
set_option linter.unusedSimpArgs false
open Go.RowKit Go.Sort

set_option maxHeartbeats 6400000 in
set_option maxRecDepth 100000 in
theorem fmtU_inner (u : Nat) (hu64 : u < 18446744073709551616) (w : World) (htab : StrIs w) :
    Calls Tryz.prog 20 #[.int .u64 u, .int .i64 10] w fun e w' => e = .returned (.string (bs (Lib.decDigits u))) ∧ Below w.heap.size w w' := by
  unfold StrIs at htab
  by_cases hs : u < 100
  · have hu : (u : Int) < 100 := by omega
    have hwr : IntKind.i64.wrap (u : Int) = (u : Int) := IntWalk.i64_in _ (by omega)
    go_enter Tryz.func20, Tryz.ntmps20
    go_wp2_with (go_at_call 27; refine (Tryz.internal_strconv_small u hs _).mono ?_; rintro e w' ⟨rfl, rfl⟩)
    go_ret
    exact ⟨rfl, Below.refl _ _⟩
  · have hu1 : 1 ≤ u := by omega
    have hnd20 : Lib.nDigits u ≤ 20 := by have := Lib.numDigits_eq u hu1 hu64; split at this <;> omega
    have hal : Tryz.prog.arrayLen 57 = 24 := by kernel_rfl
    have hsl : ∀ W, (Instr.sliceAt 57 (.pointer (some ⟨w.heap.size, 0, none⟩)) none (some (.int .i64 (Lib.nDigits u : Int))) none).run Tryz.prog W = .ok (.slice (some ⟨w.heap.size, 0, none⟩) (Lib.nDigits u) 24) W := fun W => by
      rw [run_sliceAt_array_h W 57 ⟨w.heap.size, 0, none⟩ (by simp [Program.arrayLen, Program.elem, Tryz.underlying57]) .i64 (Lib.nDigits u : Int) (by omega) (by rw [hal]; omega)]
      go_simp
    have hH0 := Lib.holds_zero0 w 57 (Lib.nDigits u) (by omega)
    have hfmt := Tryz.internal_strconv_formatBase10 w.heap.size 0 24 u (Array.replicate (Lib.nDigits u) 0) (w.alloc (.cells Lib.zeros24 57)) hH0 (by rw [Array.size_replicate]; exact Lib.lt_pow_nDigits u) hu64 (by rw [Array.size_replicate]; omega)
    rw [Array.size_replicate] at hfmt
    have HH0 := Lib.hid hH0
    have iu : (100 : Int) ≤ (u : Int) := by omega
    have iu2 : ¬ (u : Int) < 100 := by omega
    clear hH0 hal
    go_enter Tryz.func20, Tryz.ntmps20
    go_wp2_with (go_at_call 28; refine (Tryz.internal_strconv_numDigits u hu1 hu64 _ (Lib.tabIs_alloc htab _)).mono ?_; rintro e w' ⟨rfl, rfl⟩)
    go_at_call 29
    refine hfmt.mono ?_
    rintro e w' ⟨rfl, k, v', dk, rfl, hF⟩
    have hcv : (convert 60 9 (.slice (some ⟨w.heap.size, 0, none⟩) (Lib.nDigits u) 24)).run Tryz.prog ((putRow (fun (b : UInt8) => Value.int .u8 (b.toNat : Int)) (w.alloc (.cells Lib.zeros24 57)) w.heap.size 0 dk).drewN k) = .ok (.string ⟨(Lib.decDigits u).toArray⟩) ((putRow (fun (b : UInt8) => Value.int .u8 (b.toNat : Int)) (w.alloc (.cells Lib.zeros24 57)) w.heap.size 0 dk).drewN k) := by
      have h := run_convert_bytes_back (P := Tryz.prog) ((putRow (fun (b : UInt8) => Value.int .u8 (b.toNat : Int)) (w.alloc (.cells Lib.zeros24 57)) w.heap.size 0 dk).drewN k) 60 9 5 ⟨w.heap.size, 0, none⟩ 24 (Lib.decDigits u) Tryz.underlying60 Tryz.underlying5 Tryz.underlying9 (fun j hj => by
        rw [Lib.row_is_numeral hF j hj, Lib.add_plain, World.cell?_drewN]
        exact cell?_putRow (fun (b : UInt8) => Value.int .u8 (b.toNat : Int)) _ w.heap.size 0 _ dk HH0.out (by rw [hF.size, Array.size_replicate]) j (by rw [hF.size]; rw [Lib.decDigits_length] at hj; exact hj))
      rw [Lib.decDigits_length] at h
      exact h
    go_wp2
    go_ret
    obtain ⟨os, eo⟩ := Lib.fin_at w (.cells Lib.zeros24 57) dk k 0
    refine ⟨rfl, ?_⟩
    rw [eo]
    exact below_grow w k os

set_option maxHeartbeats 1000000 in
theorem fmtU_calls (u : Nat) (hu64 : u < 18446744073709551616) (w : World) (htab : StrIs w) :
    Calls Tryz.prog 14 #[.int .u64 u, .int .i64 10] w fun e w' => e = .returned (.string (bs (Lib.decDigits u))) ∧ Below w.heap.size w w' := by
  have hc := fmtU_inner u hu64 w htab
  clear htab
  go_enter Tryz.func14, Tryz.ntmps14
  go_wp2_with (go_at_call 20; refine hc.mono ?_; rintro e w' ⟨rfl, hb⟩)
  go_ret
  exact ⟨rfl, hb⟩
end Go.Proofs.YtkhbmkccbhkolaaGreatDoor
namespace Go.Proofs.YtkhbmkccbhkolaaGreatDoor
set_option linter.unusedVariables false
open Go.RowKit

def strconv_FormatUint.f (a0 a1 : Int) : Option ByteArray := if a1 = 10 ∧ 0 ≤ a0 ∧ a0 < 18446744073709551616 then some (bs (Lib.itoa a0)) else none
theorem strconv_FormatUint.calls {T_ : World → Prop} [HasStr T_] (a0 a1 : Int) (r : ByteArray) (w : World) (hT_ : T_ w) (h : strconv_FormatUint.f a0 a1 = some r) :
    Calls Tryz.prog 14 #[.int .u64 a0, .int .i64 a1] w fun e w' => e = .returned (.string r) ∧ Below w.heap.size w w' := by
  unfold strconv_FormatUint.f at h
  by_cases hs : a1 = 10 ∧ 0 ≤ a0 ∧ a0 < 18446744073709551616
  · rw [if_pos hs] at h
    injection h with h
    subst h
    obtain ⟨rfl, h1, h2⟩ := hs
    obtain ⟨u, rfl⟩ : ∃ u : Nat, a0 = (u : Int) := ⟨a0.toNat, by omega⟩
    have e : Lib.itoa (u : Int) = Lib.decDigits u := by unfold Lib.itoa; rw [if_neg (by omega)]; simp
    rw [e]
    exact fmtU_calls u (by omega) w (HasStr.str hT_)
  · rw [if_neg hs] at h; cases h
end Go.Proofs.YtkhbmkccbhkolaaGreatDoor
