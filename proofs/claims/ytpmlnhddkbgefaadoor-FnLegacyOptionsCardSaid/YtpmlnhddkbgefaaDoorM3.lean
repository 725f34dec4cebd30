/- DERIVED: THE SHELF's CONTRACTS AT THIS DUMP, IN PLAIN WORDS (tools/lay-plain.mjs out of 'YtpmlnhddkbgefaaDoorShelf.lean', which tools/lay-shelf.mjs wrote): THE SAME DECLARATIONS UNDER THE SAME NAMES: 'import', 'namespace', 'open', 'def', 'theorem' AND NOTHING ELSE: no command of the shelf's: FOR A HAND-IN. Each laying: the table of numbers ('.._ren') and one theorem, a field a fact of the dump's own or the kernel's comparison; each contract: ONE APPLICATION. strconv.Itoa, in the form of a printed function; the table that it reads. -/
import Derived.Shelf.Strconv.Itoa0
import Derived.Shelf.Strconv.Itoa1
import Derived.Shelf.LaysM
import Derived.Shelf.Strconv.Itoa2
import Derived.Shelf.Strconv.Itoa3
import Derived.Test.YtpmlnhddkbgefaaDoorProg
import Derived.Test.YtpmlnhddkbgefaaDoorM1
namespace Go.Proofs
open Go.Shelf
def Tryd.lays129_ren : Go.Shelf.Ren := ⟨fun | 129 => 113 | n => n, fun | 53 => 22 | 3 => 3 | 4 => 4 | 46 => 37 | 5 => 5 | 9 => 9 | n => n, fun | n => n⟩
theorem Tryd.lays129 : Go.Proofs.Lays.n129 Tryd.prog Tryd.lays129_ren := {
  mixed := by kernel_rfl
  f129 := Tryd.func113.trans (congrArg some (by kernel_rfl))
  t3 := Tryd.underlying3
  a3 := Tryd.isAgg3
  z3 := Tryd.sizeOf3
  v3 := Tryd.zeroValue3
  t4 := Tryd.underlying4
  a4 := Tryd.isAgg4
  z4 := Tryd.sizeOf4
  v4 := Tryd.zeroValue4
  t5 := Tryd.underlying5
  a5 := Tryd.isAgg5
  z5 := Tryd.sizeOf5
  v5 := Tryd.zeroValue5
  t9 := Tryd.underlying9
  a9 := Tryd.isAgg9
  z9 := Tryd.sizeOf9
  v9 := Tryd.zeroValue9
  t46 := Tryd.underlying37
  a46 := Tryd.isAgg37
  z46 := Tryd.sizeOf37
  v46 := Tryd.zeroValue37
  t53 := Tryd.underlying22
  a53 := Tryd.isAgg22
  z53 := Tryd.sizeOf22
  v53 := Tryd.zeroValue22 }
/-- bits.Len64: "Len64 returns the minimum number of bits required to represent x; the result is 0 for x == 0.": IT RETURNS 'Lib.bitLen x'; the world is as it was. ('h0', 'h1': x is a uint64.) (LAID: no walk: one application.) -/
theorem Tryd.bits_Len64 (x : Int) (w : World) (h0 : 0 ≤ x) (h1 : x ≤ 18446744073709551615) :
    Calls Tryd.prog 113 #[.int .u64 x] w fun e w' => e = .returned (.int .i64 (Lib.bitLen x.toNat)) ∧ w' = w := Any.bits_Len64 Tryd.lays129 x w h0 h1
def Tryd.lays317_ren : Go.Shelf.Ren := ⟨fun | 317 => 112 | n => n, fun | 3 => 3 | 46 => 37 | n => n, fun | n => n⟩
theorem Tryd.lays317 : Go.Proofs.Lays.n317 Tryd.prog Tryd.lays317_ren := {
  mixed := by kernel_rfl
  f317 := Tryd.func112.trans (congrArg some (by kernel_rfl))
  t3 := Tryd.underlying3
  a3 := Tryd.isAgg3
  z3 := Tryd.sizeOf3
  v3 := Tryd.zeroValue3
  t46 := Tryd.underlying37
  a46 := Tryd.isAgg37
  z46 := Tryd.sizeOf37
  v46 := Tryd.zeroValue37 }
open Go.Lib in
/-- internal/strconv.log10Pow2: "log10Pow2(x) returns ⌊log₁₀ 2**x⌋ = ⌊x * log₁₀ 2⌋.": '(x * 78913) >> 18', at an x up to 64 (a length in bits). The world is as it was. (LAID: no walk: one application.) -/
theorem Tryd.internal_strconv_log10Pow2 (x : Nat) (h : x ≤ 64) (w : World) :
    Calls Tryd.prog 112 #[.int .i64 x] w fun e w' => e = .returned (.int .i64 (Lib.l10 x)) ∧ w' = w := Any.internal_strconv_log10Pow2 Tryd.lays317 x h w
def Tryd.lays318_ren : Go.Shelf.Ren := ⟨fun | 318 => 114 | n => n, fun | 3 => 3 | 4 => 4 | n => n, fun | n => n⟩
theorem Tryd.lays318 : Go.Proofs.Lays.n318 Tryd.prog Tryd.lays318_ren := {
  mixed := by kernel_rfl
  f318 := Tryd.func114.trans (congrArg some (by kernel_rfl))
  t3 := Tryd.underlying3
  a3 := Tryd.isAgg3
  z3 := Tryd.sizeOf3
  v3 := Tryd.zeroValue3
  t4 := Tryd.underlying4
  a4 := Tryd.isAgg4
  z4 := Tryd.sizeOf4
  v4 := Tryd.zeroValue4 }
open Go.Lib in
/-- internal/strconv.bool2: "bool2 converts b to an integer: 1 for true, 0 for false." The world is as it was. (LAID: no walk: one application.) -/
theorem Tryd.internal_strconv_bool2_int (b : Bool) (w : World) :
    Calls Tryd.prog 114 #[.bool b] w fun e w' => e = .returned (.int .i64 (if b then 1 else 0)) ∧ w' = w := Any.internal_strconv_bool2_int Tryd.lays318 b w
def Tryd.lays283_ren : Go.Shelf.Ren := ⟨fun | 283 => 106 | n => n, fun | 3 => 3 | 9 => 9 | 4 => 4 | n => n, fun | n => n⟩
theorem Tryd.lays283 : Go.Proofs.Lays.n283 Tryd.prog Tryd.lays283_ren := {
  mixed := by kernel_rfl
  f283 := Tryd.func106.trans (congrArg some (by kernel_rfl))
  t3 := Tryd.underlying3
  a3 := Tryd.isAgg3
  z3 := Tryd.sizeOf3
  v3 := Tryd.zeroValue3
  t4 := Tryd.underlying4
  a4 := Tryd.isAgg4
  z4 := Tryd.sizeOf4
  v4 := Tryd.zeroValue4
  t9 := Tryd.underlying9
  a9 := Tryd.isAgg9
  z9 := Tryd.sizeOf9
  v9 := Tryd.zeroValue9 }
open Go.Lib in
/-- internal/strconv.small: "small returns the string for an i with 0 <= i < nSmalls.": i's decimal numeral. The world is as it was. (LAID: no walk: one application.) -/
theorem Tryd.internal_strconv_small (i : Nat) (h : i < 100) (w : World) :
    Calls Tryd.prog 106 #[.int .i64 i] w fun e w' => e = .returned (.string ⟨(Lib.decDigits i).toArray⟩) ∧ w' = w := Any.internal_strconv_small Tryd.lays283 i h w
def Tryd.laysM284_ren : Go.Shelf.Ren := ⟨fun | 284 => 107 | 129 => 113 | 317 => 112 | 318 => 114 | n => n, fun | 53 => 22 | 3 => 3 | 212 => 156 | 0 => 0 | 4 => 4 | 46 => 37 | 5 => 5 | 9 => 9 | n => n, fun | 17 => 0 | n => n⟩
theorem Tryd.laysM284 : Go.Proofs.LaysM.n284 Tryd.prog Tryd.laysM284_ren := {
  mixed := by kernel_rfl
  f129 := Tryd.func113.trans (congrArg some (by kernel_rfl))
  f284 := Tryd.func107.trans (congrArg some (by kernel_rfl))
  f317 := Tryd.func112.trans (congrArg some (by kernel_rfl))
  f318 := Tryd.func114.trans (congrArg some (by kernel_rfl))
  t0 := Tryd.underlying0
  a0 := Tryd.isAgg0
  z0 := Tryd.sizeOf0
  v0 := Tryd.zeroValue0
  t3 := Tryd.underlying3
  a3 := Tryd.isAgg3
  z3 := Tryd.sizeOf3
  v3 := Tryd.zeroValue3
  t4 := Tryd.underlying4
  a4 := Tryd.isAgg4
  z4 := Tryd.sizeOf4
  v4 := Tryd.zeroValue4
  t5 := Tryd.underlying5
  a5 := Tryd.isAgg5
  z5 := Tryd.sizeOf5
  v5 := Tryd.zeroValue5
  t9 := Tryd.underlying9
  a9 := Tryd.isAgg9
  z9 := Tryd.sizeOf9
  v9 := Tryd.zeroValue9
  t46 := Tryd.underlying37
  a46 := Tryd.isAgg37
  z46 := Tryd.sizeOf37
  v46 := Tryd.zeroValue37
  t53 := Tryd.underlying22
  a53 := Tryd.isAgg22
  z53 := Tryd.sizeOf22
  v53 := Tryd.zeroValue22
  t212 := Tryd.underlying156
  a212 := Tryd.isAgg156
  z212 := Tryd.sizeOf156
  v212 := Tryd.zeroValue156
  g17 := by kernel_rfl
  i0 := by kernel_rfl
  i3 := by kernel_rfl
  i4 := by kernel_rfl
  i5 := by kernel_rfl
  i9 := by kernel_rfl
  i46 := by kernel_rfl
  i53 := by kernel_rfl
  i212 := by kernel_rfl
  m17 := by kernel_rfl }
open Go.Lib in
/-- internal/strconv.numDigits, at a d that is not 0: THE NUMBER OF d's DECIMAL DIGITS. The world is as it was. (LAID: no walk: one application.) -/
theorem Tryd.internal_strconv_numDigits (u : Nat) (h1 : 1 ≤ u) (h2 : u < 18446744073709551616) (w : World) (htab : Lib.TabIs Tryd.prog w "internal/strconv.uint64pow10" .u64 Lib.pow10Tab) :
    Calls Tryd.prog 107 #[.int .u64 u] w fun e w' => e = .returned (.int .i64 (Lib.nDigits u)) ∧ w' = w := Any.internal_strconv_numDigits Tryd.laysM284 u h1 h2 w htab
def Tryd.lays285_ren : Go.Shelf.Ren := ⟨fun | 285 => 108 | n => n, fun | 37 => 27 | 53 => 22 | 3 => 3 | 4 => 4 | 51 => 157 | 9 => 9 | 5 => 5 | 0 => 0 | n => n, fun | n => n⟩
theorem Tryd.lays285 : Go.Proofs.Lays.n285 Tryd.prog Tryd.lays285_ren := {
  mixed := by kernel_rfl
  f285 := Tryd.func108.trans (congrArg some (by kernel_rfl))
  t0 := Tryd.underlying0
  a0 := Tryd.isAgg0
  z0 := Tryd.sizeOf0
  v0 := Tryd.zeroValue0
  t3 := Tryd.underlying3
  a3 := Tryd.isAgg3
  z3 := Tryd.sizeOf3
  v3 := Tryd.zeroValue3
  t4 := Tryd.underlying4
  a4 := Tryd.isAgg4
  z4 := Tryd.sizeOf4
  v4 := Tryd.zeroValue4
  t5 := Tryd.underlying5
  a5 := Tryd.isAgg5
  z5 := Tryd.sizeOf5
  v5 := Tryd.zeroValue5
  t9 := Tryd.underlying9
  a9 := Tryd.isAgg9
  z9 := Tryd.sizeOf9
  v9 := Tryd.zeroValue9
  t37 := Tryd.underlying27
  a37 := Tryd.isAgg27
  z37 := Tryd.sizeOf27
  v37 := Tryd.zeroValue27
  t51 := Tryd.underlying157
  a51 := Tryd.isAgg157
  z51 := Tryd.sizeOf157
  v51 := Tryd.zeroValue157
  t53 := Tryd.underlying22
  a53 := Tryd.isAgg22
  z53 := Tryd.sizeOf22
  v53 := Tryd.zeroValue22 }
open Go.RowKit Go.Sort Go.Lib in
/-- internal/strconv.formatBase10: "formatBase10 formats the decimal representation of u into a. The caller is responsible for ensuring that a is big enough to hold u. If a is too big, leading zeros will be filled in as needed.": THE ROW HOLDS u's DIGITS ('FmtInv .. 0 ..': every place t holds 'dg u (len - 1 - t)'); all else is as it was but for the count of draws. (LAID: no walk: one application.) -/
theorem Tryd.internal_strconv_formatBase10 (blk off cap : Nat) (u : Nat) (d : Array UInt8) (w : World) (hH : Holds (fun (b : UInt8) => Value.int .u8 (b.toNat : Int)) w blk off d) (hu : u < 10 ^ d.size) (hu64 : u < 18446744073709551616) (hsz : d.size < 4611686018427387904) :
    Calls Tryd.prog 108 #[.slice (some ⟨blk, off, none⟩) d.size cap, .int .u64 u] w fun e w' =>
      e = .returned (.tuple #[]) ∧ ∃ (n v' : Nat) (dk : Array UInt8), w' = (putRow (fun (b : UInt8) => Value.int .u8 (b.toNat : Int)) w blk off dk).drewN n ∧ FmtInv d.size u 0 v' dk := Any.internal_strconv_formatBase10 Tryd.lays285 blk off cap u d w hH hu hu64 hsz
def Tryd.laysM246_ren : Go.Shelf.Ren := ⟨fun | 246 => 95 | 283 => 106 | 284 => 107 | 285 => 108 | 286 => 109 | 129 => 113 | 317 => 112 | 318 => 114 | 319 => 115 | 320 => 116 | 337 => 118 | 338 => 119 | n => n, fun | 2 => 2 | 3 => 3 | 9 => 9 | 4 => 4 | 171 => 147 | 0 => 0 | 53 => 22 | 37 => 27 | 5 => 5 | 173 => 150 | 212 => 156 | 51 => 157 | 20 => 20 | 213 => 158 | 46 => 37 | 232 => 166 | 233 => 167 | n => n, fun | 17 => 0 | 18 => 3 | 19 => 4 | n => n⟩
theorem Tryd.laysM246 : Go.Proofs.LaysM.n246 Tryd.prog Tryd.laysM246_ren := {
  mixed := by kernel_rfl
  f129 := Tryd.func113.trans (congrArg some (by kernel_rfl))
  f246 := Tryd.func95.trans (congrArg some (by kernel_rfl))
  f283 := Tryd.func106.trans (congrArg some (by kernel_rfl))
  f284 := Tryd.func107.trans (congrArg some (by kernel_rfl))
  f285 := Tryd.func108.trans (congrArg some (by kernel_rfl))
  f286 := Tryd.func109.trans (congrArg some (by kernel_rfl))
  f317 := Tryd.func112.trans (congrArg some (by kernel_rfl))
  f318 := Tryd.func114.trans (congrArg some (by kernel_rfl))
  f319 := Tryd.func115.trans (congrArg some (by kernel_rfl))
  f320 := Tryd.func116.trans (congrArg some (by kernel_rfl))
  f337 := Tryd.func118.trans (congrArg some (by kernel_rfl))
  f338 := Tryd.func119.trans (congrArg some (by kernel_rfl))
  t0 := Tryd.underlying0
  a0 := Tryd.isAgg0
  z0 := Tryd.sizeOf0
  v0 := Tryd.zeroValue0
  t2 := Tryd.underlying2
  a2 := Tryd.isAgg2
  z2 := Tryd.sizeOf2
  v2 := Tryd.zeroValue2
  t3 := Tryd.underlying3
  a3 := Tryd.isAgg3
  z3 := Tryd.sizeOf3
  v3 := Tryd.zeroValue3
  t4 := Tryd.underlying4
  a4 := Tryd.isAgg4
  z4 := Tryd.sizeOf4
  v4 := Tryd.zeroValue4
  t5 := Tryd.underlying5
  a5 := Tryd.isAgg5
  z5 := Tryd.sizeOf5
  v5 := Tryd.zeroValue5
  t9 := Tryd.underlying9
  a9 := Tryd.isAgg9
  z9 := Tryd.sizeOf9
  v9 := Tryd.zeroValue9
  t20 := Tryd.underlying20
  a20 := Tryd.isAgg20
  z20 := Tryd.sizeOf20
  v20 := Tryd.zeroValue20
  t37 := Tryd.underlying27
  a37 := Tryd.isAgg27
  z37 := Tryd.sizeOf27
  v37 := Tryd.zeroValue27
  t46 := Tryd.underlying37
  a46 := Tryd.isAgg37
  z46 := Tryd.sizeOf37
  v46 := Tryd.zeroValue37
  t51 := Tryd.underlying157
  a51 := Tryd.isAgg157
  z51 := Tryd.sizeOf157
  v51 := Tryd.zeroValue157
  t53 := Tryd.underlying22
  a53 := Tryd.isAgg22
  z53 := Tryd.sizeOf22
  v53 := Tryd.zeroValue22
  t171 := Tryd.underlying147
  a171 := Tryd.isAgg147
  z171 := Tryd.sizeOf147
  v171 := Tryd.zeroValue147
  t173 := Tryd.underlying150
  a173 := Tryd.isAgg150
  z173 := Tryd.sizeOf150
  v173 := Tryd.zeroValue150
  t212 := Tryd.underlying156
  a212 := Tryd.isAgg156
  z212 := Tryd.sizeOf156
  v212 := Tryd.zeroValue156
  t213 := Tryd.underlying158
  a213 := Tryd.isAgg158
  z213 := Tryd.sizeOf158
  t232 := Tryd.underlying166
  a232 := Tryd.isAgg166
  z232 := Tryd.sizeOf166
  v232 := Tryd.zeroValue166
  t233 := Tryd.underlying167
  a233 := Tryd.isAgg167
  z233 := Tryd.sizeOf167
  v233 := Tryd.zeroValue167
  g17 := by kernel_rfl
  g18 := by kernel_rfl
  g19 := by kernel_rfl
  i0 := by kernel_rfl
  i2 := by kernel_rfl
  i3 := by kernel_rfl
  i4 := by kernel_rfl
  i5 := by kernel_rfl
  i9 := by kernel_rfl
  i20 := by kernel_rfl
  i37 := by kernel_rfl
  i46 := by kernel_rfl
  i51 := by kernel_rfl
  i53 := by kernel_rfl
  i171 := by kernel_rfl
  i173 := by kernel_rfl
  i212 := by kernel_rfl
  i232 := by kernel_rfl
  i233 := by kernel_rfl
  m17 := by kernel_rfl
  m18 := by kernel_rfl
  m19 := by kernel_rfl }
open Go.RowKit Go.Sort Go.Lib in
/-- internal/strconv.FormatInt: "FormatInt returns the string representation of i in the given base": AT BASE 10: i's decimal numeral, for every int64. The world behind the call: the world before it, new blocks behind the heap, draws. (LAID: no walk: one application.) -/
theorem Tryd.internal_strconv_FormatInt_10 (n : Int) (h0 : -9223372036854775808 ≤ n) (h1 : n ≤ 9223372036854775807) (w : World) (htab : Lib.TabIs Tryd.prog w "internal/strconv.uint64pow10" .u64 Lib.pow10Tab) :
    Calls Tryd.prog 95 #[.int .i64 n, .int .i64 10] w fun e w' => e = .returned (.string ⟨(Lib.itoa n).toArray⟩) ∧ ∃ k os, w' = grow (w.drewN k) os := Any.internal_strconv_FormatInt_10 Tryd.laysM246 n h0 h1 w htab
def Tryd.lays246_ren : Go.Shelf.Ren := ⟨fun | 246 => 95 | 283 => 106 | 284 => 107 | 285 => 108 | 286 => 109 | 129 => 113 | 317 => 112 | 318 => 114 | 319 => 115 | 320 => 116 | 337 => 118 | 338 => 119 | n => n, fun | 2 => 2 | 3 => 3 | 9 => 9 | 4 => 4 | 171 => 147 | 0 => 0 | 53 => 22 | 37 => 27 | 5 => 5 | 173 => 150 | 212 => 156 | 51 => 157 | 20 => 20 | 213 => 158 | 46 => 37 | 232 => 166 | 233 => 167 | n => n, fun | 17 => 0 | 18 => 3 | 19 => 4 | n => n⟩
theorem Tryd.lays246 : Go.Proofs.Lays.n246 Tryd.prog Tryd.lays246_ren := {
  mixed := by kernel_rfl
  f129 := Tryd.func113.trans (congrArg some (by kernel_rfl))
  f246 := Tryd.func95.trans (congrArg some (by kernel_rfl))
  f283 := Tryd.func106.trans (congrArg some (by kernel_rfl))
  f284 := Tryd.func107.trans (congrArg some (by kernel_rfl))
  f285 := Tryd.func108.trans (congrArg some (by kernel_rfl))
  f286 := Tryd.func109.trans (congrArg some (by kernel_rfl))
  f317 := Tryd.func112.trans (congrArg some (by kernel_rfl))
  f318 := Tryd.func114.trans (congrArg some (by kernel_rfl))
  f319 := Tryd.func115.trans (congrArg some (by kernel_rfl))
  f320 := Tryd.func116.trans (congrArg some (by kernel_rfl))
  f337 := Tryd.func118.trans (congrArg some (by kernel_rfl))
  f338 := Tryd.func119.trans (congrArg some (by kernel_rfl))
  t0 := Tryd.underlying0
  a0 := Tryd.isAgg0
  z0 := Tryd.sizeOf0
  v0 := Tryd.zeroValue0
  t2 := Tryd.underlying2
  a2 := Tryd.isAgg2
  z2 := Tryd.sizeOf2
  v2 := Tryd.zeroValue2
  t3 := Tryd.underlying3
  a3 := Tryd.isAgg3
  z3 := Tryd.sizeOf3
  v3 := Tryd.zeroValue3
  t4 := Tryd.underlying4
  a4 := Tryd.isAgg4
  z4 := Tryd.sizeOf4
  v4 := Tryd.zeroValue4
  t5 := Tryd.underlying5
  a5 := Tryd.isAgg5
  z5 := Tryd.sizeOf5
  v5 := Tryd.zeroValue5
  t9 := Tryd.underlying9
  a9 := Tryd.isAgg9
  z9 := Tryd.sizeOf9
  v9 := Tryd.zeroValue9
  t20 := Tryd.underlying20
  a20 := Tryd.isAgg20
  z20 := Tryd.sizeOf20
  v20 := Tryd.zeroValue20
  t37 := Tryd.underlying27
  a37 := Tryd.isAgg27
  z37 := Tryd.sizeOf27
  v37 := Tryd.zeroValue27
  t46 := Tryd.underlying37
  a46 := Tryd.isAgg37
  z46 := Tryd.sizeOf37
  v46 := Tryd.zeroValue37
  t51 := Tryd.underlying157
  a51 := Tryd.isAgg157
  z51 := Tryd.sizeOf157
  v51 := Tryd.zeroValue157
  t53 := Tryd.underlying22
  a53 := Tryd.isAgg22
  z53 := Tryd.sizeOf22
  v53 := Tryd.zeroValue22
  t171 := Tryd.underlying147
  a171 := Tryd.isAgg147
  z171 := Tryd.sizeOf147
  v171 := Tryd.zeroValue147
  t173 := Tryd.underlying150
  a173 := Tryd.isAgg150
  z173 := Tryd.sizeOf150
  v173 := Tryd.zeroValue150
  t212 := Tryd.underlying156
  a212 := Tryd.isAgg156
  z212 := Tryd.sizeOf156
  v212 := Tryd.zeroValue156
  t213 := Tryd.underlying158
  a213 := Tryd.isAgg158
  z213 := Tryd.sizeOf158
  t232 := Tryd.underlying166
  a232 := Tryd.isAgg166
  z232 := Tryd.sizeOf166
  v232 := Tryd.zeroValue166
  t233 := Tryd.underlying167
  a233 := Tryd.isAgg167
  z233 := Tryd.sizeOf167
  v233 := Tryd.zeroValue167
  g17 := by kernel_rfl
  g18 := by kernel_rfl
  g19 := by kernel_rfl }
open Go.RowKit Go.Sort Go.Lib in
/-- THE ROAD WITHOUT THE TABLE: 0 <= i < 100: two constants are read, nothing is laid: no premise on the world, and the world is as it was. (LAID: no walk: one application.) -/
theorem Tryd.internal_strconv_FormatInt_10_small (i : Nat) (hi : i < 100) (w : World) :
    Calls Tryd.prog 95 #[.int .i64 i, .int .i64 10] w fun e w' => e = .returned (.string ⟨(Lib.decDigits i).toArray⟩) ∧ w' = w := Any.internal_strconv_FormatInt_10_small Tryd.lays246 i hi w
def Tryd.laysM243_ren : Go.Shelf.Ren := ⟨fun | 243 => 65 | 246 => 95 | 283 => 106 | 284 => 107 | 285 => 108 | 286 => 109 | 129 => 113 | 317 => 112 | 318 => 114 | 319 => 115 | 320 => 116 | 337 => 118 | 338 => 119 | n => n, fun | 3 => 3 | 9 => 9 | 2 => 2 | 4 => 4 | 171 => 147 | 0 => 0 | 53 => 22 | 37 => 27 | 5 => 5 | 173 => 150 | 212 => 156 | 51 => 157 | 20 => 20 | 213 => 158 | 46 => 37 | 232 => 166 | 233 => 167 | n => n, fun | 17 => 0 | 18 => 3 | 19 => 4 | n => n⟩
theorem Tryd.laysM243 : Go.Proofs.LaysM.n243 Tryd.prog Tryd.laysM243_ren := {
  mixed := by kernel_rfl
  f129 := Tryd.func113.trans (congrArg some (by kernel_rfl))
  f243 := Tryd.func65.trans (congrArg some (by kernel_rfl))
  f246 := Tryd.func95.trans (congrArg some (by kernel_rfl))
  f283 := Tryd.func106.trans (congrArg some (by kernel_rfl))
  f284 := Tryd.func107.trans (congrArg some (by kernel_rfl))
  f285 := Tryd.func108.trans (congrArg some (by kernel_rfl))
  f286 := Tryd.func109.trans (congrArg some (by kernel_rfl))
  f317 := Tryd.func112.trans (congrArg some (by kernel_rfl))
  f318 := Tryd.func114.trans (congrArg some (by kernel_rfl))
  f319 := Tryd.func115.trans (congrArg some (by kernel_rfl))
  f320 := Tryd.func116.trans (congrArg some (by kernel_rfl))
  f337 := Tryd.func118.trans (congrArg some (by kernel_rfl))
  f338 := Tryd.func119.trans (congrArg some (by kernel_rfl))
  t0 := Tryd.underlying0
  a0 := Tryd.isAgg0
  z0 := Tryd.sizeOf0
  v0 := Tryd.zeroValue0
  t2 := Tryd.underlying2
  a2 := Tryd.isAgg2
  z2 := Tryd.sizeOf2
  v2 := Tryd.zeroValue2
  t3 := Tryd.underlying3
  a3 := Tryd.isAgg3
  z3 := Tryd.sizeOf3
  v3 := Tryd.zeroValue3
  t4 := Tryd.underlying4
  a4 := Tryd.isAgg4
  z4 := Tryd.sizeOf4
  v4 := Tryd.zeroValue4
  t5 := Tryd.underlying5
  a5 := Tryd.isAgg5
  z5 := Tryd.sizeOf5
  v5 := Tryd.zeroValue5
  t9 := Tryd.underlying9
  a9 := Tryd.isAgg9
  z9 := Tryd.sizeOf9
  v9 := Tryd.zeroValue9
  t20 := Tryd.underlying20
  a20 := Tryd.isAgg20
  z20 := Tryd.sizeOf20
  v20 := Tryd.zeroValue20
  t37 := Tryd.underlying27
  a37 := Tryd.isAgg27
  z37 := Tryd.sizeOf27
  v37 := Tryd.zeroValue27
  t46 := Tryd.underlying37
  a46 := Tryd.isAgg37
  z46 := Tryd.sizeOf37
  v46 := Tryd.zeroValue37
  t51 := Tryd.underlying157
  a51 := Tryd.isAgg157
  z51 := Tryd.sizeOf157
  v51 := Tryd.zeroValue157
  t53 := Tryd.underlying22
  a53 := Tryd.isAgg22
  z53 := Tryd.sizeOf22
  v53 := Tryd.zeroValue22
  t171 := Tryd.underlying147
  a171 := Tryd.isAgg147
  z171 := Tryd.sizeOf147
  v171 := Tryd.zeroValue147
  t173 := Tryd.underlying150
  a173 := Tryd.isAgg150
  z173 := Tryd.sizeOf150
  v173 := Tryd.zeroValue150
  t212 := Tryd.underlying156
  a212 := Tryd.isAgg156
  z212 := Tryd.sizeOf156
  v212 := Tryd.zeroValue156
  t213 := Tryd.underlying158
  a213 := Tryd.isAgg158
  z213 := Tryd.sizeOf158
  t232 := Tryd.underlying166
  a232 := Tryd.isAgg166
  z232 := Tryd.sizeOf166
  v232 := Tryd.zeroValue166
  t233 := Tryd.underlying167
  a233 := Tryd.isAgg167
  z233 := Tryd.sizeOf167
  v233 := Tryd.zeroValue167
  g17 := by kernel_rfl
  g18 := by kernel_rfl
  g19 := by kernel_rfl
  i0 := by kernel_rfl
  i2 := by kernel_rfl
  i3 := by kernel_rfl
  i4 := by kernel_rfl
  i5 := by kernel_rfl
  i9 := by kernel_rfl
  i20 := by kernel_rfl
  i37 := by kernel_rfl
  i46 := by kernel_rfl
  i51 := by kernel_rfl
  i53 := by kernel_rfl
  i171 := by kernel_rfl
  i173 := by kernel_rfl
  i212 := by kernel_rfl
  i232 := by kernel_rfl
  i233 := by kernel_rfl
  m17 := by kernel_rfl
  m18 := by kernel_rfl
  m19 := by kernel_rfl }
open Go.RowKit Go.Sort Go.Lib in
/-- internal/strconv.Itoa: "Itoa is equivalent to FormatInt(int64(i), 10).": i's decimal numeral, for every int. (LAID: no walk: one application.) -/
theorem Tryd.internal_strconv_Itoa (n : Int) (h0 : -9223372036854775808 ≤ n) (h1 : n ≤ 9223372036854775807) (w : World) (htab : Lib.TabIs Tryd.prog w "internal/strconv.uint64pow10" .u64 Lib.pow10Tab) :
    Calls Tryd.prog 65 #[.int .i64 n] w fun e w' => e = .returned (.string ⟨(Lib.itoa n).toArray⟩) ∧ ∃ k os, w' = grow (w.drewN k) os := Any.internal_strconv_Itoa Tryd.laysM243 n h0 h1 w htab
def Tryd.lays243_ren : Go.Shelf.Ren := ⟨fun | 243 => 65 | 246 => 95 | 283 => 106 | 284 => 107 | 285 => 108 | 286 => 109 | 129 => 113 | 317 => 112 | 318 => 114 | 319 => 115 | 320 => 116 | 337 => 118 | 338 => 119 | n => n, fun | 3 => 3 | 9 => 9 | 2 => 2 | 4 => 4 | 171 => 147 | 0 => 0 | 53 => 22 | 37 => 27 | 5 => 5 | 173 => 150 | 212 => 156 | 51 => 157 | 20 => 20 | 213 => 158 | 46 => 37 | 232 => 166 | 233 => 167 | n => n, fun | 17 => 0 | 18 => 3 | 19 => 4 | n => n⟩
theorem Tryd.lays243 : Go.Proofs.Lays.n243 Tryd.prog Tryd.lays243_ren := {
  mixed := by kernel_rfl
  f129 := Tryd.func113.trans (congrArg some (by kernel_rfl))
  f243 := Tryd.func65.trans (congrArg some (by kernel_rfl))
  f246 := Tryd.func95.trans (congrArg some (by kernel_rfl))
  f283 := Tryd.func106.trans (congrArg some (by kernel_rfl))
  f284 := Tryd.func107.trans (congrArg some (by kernel_rfl))
  f285 := Tryd.func108.trans (congrArg some (by kernel_rfl))
  f286 := Tryd.func109.trans (congrArg some (by kernel_rfl))
  f317 := Tryd.func112.trans (congrArg some (by kernel_rfl))
  f318 := Tryd.func114.trans (congrArg some (by kernel_rfl))
  f319 := Tryd.func115.trans (congrArg some (by kernel_rfl))
  f320 := Tryd.func116.trans (congrArg some (by kernel_rfl))
  f337 := Tryd.func118.trans (congrArg some (by kernel_rfl))
  f338 := Tryd.func119.trans (congrArg some (by kernel_rfl))
  t0 := Tryd.underlying0
  a0 := Tryd.isAgg0
  z0 := Tryd.sizeOf0
  v0 := Tryd.zeroValue0
  t2 := Tryd.underlying2
  a2 := Tryd.isAgg2
  z2 := Tryd.sizeOf2
  v2 := Tryd.zeroValue2
  t3 := Tryd.underlying3
  a3 := Tryd.isAgg3
  z3 := Tryd.sizeOf3
  v3 := Tryd.zeroValue3
  t4 := Tryd.underlying4
  a4 := Tryd.isAgg4
  z4 := Tryd.sizeOf4
  v4 := Tryd.zeroValue4
  t5 := Tryd.underlying5
  a5 := Tryd.isAgg5
  z5 := Tryd.sizeOf5
  v5 := Tryd.zeroValue5
  t9 := Tryd.underlying9
  a9 := Tryd.isAgg9
  z9 := Tryd.sizeOf9
  v9 := Tryd.zeroValue9
  t20 := Tryd.underlying20
  a20 := Tryd.isAgg20
  z20 := Tryd.sizeOf20
  v20 := Tryd.zeroValue20
  t37 := Tryd.underlying27
  a37 := Tryd.isAgg27
  z37 := Tryd.sizeOf27
  v37 := Tryd.zeroValue27
  t46 := Tryd.underlying37
  a46 := Tryd.isAgg37
  z46 := Tryd.sizeOf37
  v46 := Tryd.zeroValue37
  t51 := Tryd.underlying157
  a51 := Tryd.isAgg157
  z51 := Tryd.sizeOf157
  v51 := Tryd.zeroValue157
  t53 := Tryd.underlying22
  a53 := Tryd.isAgg22
  z53 := Tryd.sizeOf22
  v53 := Tryd.zeroValue22
  t171 := Tryd.underlying147
  a171 := Tryd.isAgg147
  z171 := Tryd.sizeOf147
  v171 := Tryd.zeroValue147
  t173 := Tryd.underlying150
  a173 := Tryd.isAgg150
  z173 := Tryd.sizeOf150
  v173 := Tryd.zeroValue150
  t212 := Tryd.underlying156
  a212 := Tryd.isAgg156
  z212 := Tryd.sizeOf156
  v212 := Tryd.zeroValue156
  t213 := Tryd.underlying158
  a213 := Tryd.isAgg158
  z213 := Tryd.sizeOf158
  t232 := Tryd.underlying166
  a232 := Tryd.isAgg166
  z232 := Tryd.sizeOf166
  v232 := Tryd.zeroValue166
  t233 := Tryd.underlying167
  a233 := Tryd.isAgg167
  z233 := Tryd.sizeOf167
  v233 := Tryd.zeroValue167
  g17 := by kernel_rfl
  g18 := by kernel_rfl
  g19 := by kernel_rfl }
open Go.RowKit Go.Sort Go.Lib in
/-- THE ROAD WITHOUT THE TABLE: 0 <= i < 100. (LAID: no walk: one application.) -/
theorem Tryd.internal_strconv_Itoa_small (i : Nat) (hi : i < 100) (w : World) :
    Calls Tryd.prog 65 #[.int .i64 i] w fun e w' => e = .returned (.string ⟨(Lib.decDigits i).toArray⟩) ∧ w' = w := Any.internal_strconv_Itoa_small Tryd.lays243 i hi w
def Tryd.laysM171_ren : Go.Shelf.Ren := ⟨fun | 171 => 50 | 243 => 65 | 246 => 95 | 283 => 106 | 284 => 107 | 285 => 108 | 286 => 109 | 129 => 113 | 317 => 112 | 318 => 114 | 319 => 115 | 320 => 116 | 337 => 118 | 338 => 119 | n => n, fun | 3 => 3 | 9 => 9 | 2 => 2 | 4 => 4 | 171 => 147 | 0 => 0 | 53 => 22 | 37 => 27 | 5 => 5 | 173 => 150 | 212 => 156 | 51 => 157 | 20 => 20 | 213 => 158 | 46 => 37 | 232 => 166 | 233 => 167 | n => n, fun | 17 => 0 | 18 => 3 | 19 => 4 | n => n⟩
theorem Tryd.laysM171 : Go.Proofs.LaysM.n171 Tryd.prog Tryd.laysM171_ren := {
  mixed := by kernel_rfl
  f129 := Tryd.func113.trans (congrArg some (by kernel_rfl))
  f171 := Tryd.func50.trans (congrArg some (by kernel_rfl))
  f243 := Tryd.func65.trans (congrArg some (by kernel_rfl))
  f246 := Tryd.func95.trans (congrArg some (by kernel_rfl))
  f283 := Tryd.func106.trans (congrArg some (by kernel_rfl))
  f284 := Tryd.func107.trans (congrArg some (by kernel_rfl))
  f285 := Tryd.func108.trans (congrArg some (by kernel_rfl))
  f286 := Tryd.func109.trans (congrArg some (by kernel_rfl))
  f317 := Tryd.func112.trans (congrArg some (by kernel_rfl))
  f318 := Tryd.func114.trans (congrArg some (by kernel_rfl))
  f319 := Tryd.func115.trans (congrArg some (by kernel_rfl))
  f320 := Tryd.func116.trans (congrArg some (by kernel_rfl))
  f337 := Tryd.func118.trans (congrArg some (by kernel_rfl))
  f338 := Tryd.func119.trans (congrArg some (by kernel_rfl))
  t0 := Tryd.underlying0
  a0 := Tryd.isAgg0
  z0 := Tryd.sizeOf0
  v0 := Tryd.zeroValue0
  t2 := Tryd.underlying2
  a2 := Tryd.isAgg2
  z2 := Tryd.sizeOf2
  v2 := Tryd.zeroValue2
  t3 := Tryd.underlying3
  a3 := Tryd.isAgg3
  z3 := Tryd.sizeOf3
  v3 := Tryd.zeroValue3
  t4 := Tryd.underlying4
  a4 := Tryd.isAgg4
  z4 := Tryd.sizeOf4
  v4 := Tryd.zeroValue4
  t5 := Tryd.underlying5
  a5 := Tryd.isAgg5
  z5 := Tryd.sizeOf5
  v5 := Tryd.zeroValue5
  t9 := Tryd.underlying9
  a9 := Tryd.isAgg9
  z9 := Tryd.sizeOf9
  v9 := Tryd.zeroValue9
  t20 := Tryd.underlying20
  a20 := Tryd.isAgg20
  z20 := Tryd.sizeOf20
  v20 := Tryd.zeroValue20
  t37 := Tryd.underlying27
  a37 := Tryd.isAgg27
  z37 := Tryd.sizeOf27
  v37 := Tryd.zeroValue27
  t46 := Tryd.underlying37
  a46 := Tryd.isAgg37
  z46 := Tryd.sizeOf37
  v46 := Tryd.zeroValue37
  t51 := Tryd.underlying157
  a51 := Tryd.isAgg157
  z51 := Tryd.sizeOf157
  v51 := Tryd.zeroValue157
  t53 := Tryd.underlying22
  a53 := Tryd.isAgg22
  z53 := Tryd.sizeOf22
  v53 := Tryd.zeroValue22
  t171 := Tryd.underlying147
  a171 := Tryd.isAgg147
  z171 := Tryd.sizeOf147
  v171 := Tryd.zeroValue147
  t173 := Tryd.underlying150
  a173 := Tryd.isAgg150
  z173 := Tryd.sizeOf150
  v173 := Tryd.zeroValue150
  t212 := Tryd.underlying156
  a212 := Tryd.isAgg156
  z212 := Tryd.sizeOf156
  v212 := Tryd.zeroValue156
  t213 := Tryd.underlying158
  a213 := Tryd.isAgg158
  z213 := Tryd.sizeOf158
  t232 := Tryd.underlying166
  a232 := Tryd.isAgg166
  z232 := Tryd.sizeOf166
  v232 := Tryd.zeroValue166
  t233 := Tryd.underlying167
  a233 := Tryd.isAgg167
  z233 := Tryd.sizeOf167
  v233 := Tryd.zeroValue167
  g17 := by kernel_rfl
  g18 := by kernel_rfl
  g19 := by kernel_rfl
  i0 := by kernel_rfl
  i2 := by kernel_rfl
  i3 := by kernel_rfl
  i4 := by kernel_rfl
  i5 := by kernel_rfl
  i9 := by kernel_rfl
  i20 := by kernel_rfl
  i37 := by kernel_rfl
  i46 := by kernel_rfl
  i51 := by kernel_rfl
  i53 := by kernel_rfl
  i171 := by kernel_rfl
  i173 := by kernel_rfl
  i212 := by kernel_rfl
  i232 := by kernel_rfl
  i233 := by kernel_rfl
  m17 := by kernel_rfl
  m18 := by kernel_rfl
  m19 := by kernel_rfl }
open Go.RowKit Go.Sort Go.Lib in
/-- strconv.Itoa: "Itoa is equivalent to FormatInt(int64(i), 10).": i's DECIMAL NUMERAL ('Lib.itoa': a '-' where i is negative, then the digits), FOR EVERY int. The world behind the call: the world before it, new blocks behind the heap (the library's 'var a [24]byte'), draws. (LAID: no walk: one application.) -/
theorem Tryd.strconv_Itoa (n : Int) (h0 : -9223372036854775808 ≤ n) (h1 : n ≤ 9223372036854775807) (w : World) (htab : Lib.TabIs Tryd.prog w "internal/strconv.uint64pow10" .u64 Lib.pow10Tab) :
    Calls Tryd.prog 50 #[.int .i64 n] w fun e w' => e = .returned (.string ⟨(Lib.itoa n).toArray⟩) ∧ ∃ k os, w' = grow (w.drewN k) os := Any.strconv_Itoa Tryd.laysM171 n h0 h1 w htab
def Tryd.lays171_ren : Go.Shelf.Ren := ⟨fun | 171 => 50 | 243 => 65 | 246 => 95 | 283 => 106 | 284 => 107 | 285 => 108 | 286 => 109 | 129 => 113 | 317 => 112 | 318 => 114 | 319 => 115 | 320 => 116 | 337 => 118 | 338 => 119 | n => n, fun | 3 => 3 | 9 => 9 | 2 => 2 | 4 => 4 | 171 => 147 | 0 => 0 | 53 => 22 | 37 => 27 | 5 => 5 | 173 => 150 | 212 => 156 | 51 => 157 | 20 => 20 | 213 => 158 | 46 => 37 | 232 => 166 | 233 => 167 | n => n, fun | 17 => 0 | 18 => 3 | 19 => 4 | n => n⟩
theorem Tryd.lays171 : Go.Proofs.Lays.n171 Tryd.prog Tryd.lays171_ren := {
  mixed := by kernel_rfl
  f129 := Tryd.func113.trans (congrArg some (by kernel_rfl))
  f171 := Tryd.func50.trans (congrArg some (by kernel_rfl))
  f243 := Tryd.func65.trans (congrArg some (by kernel_rfl))
  f246 := Tryd.func95.trans (congrArg some (by kernel_rfl))
  f283 := Tryd.func106.trans (congrArg some (by kernel_rfl))
  f284 := Tryd.func107.trans (congrArg some (by kernel_rfl))
  f285 := Tryd.func108.trans (congrArg some (by kernel_rfl))
  f286 := Tryd.func109.trans (congrArg some (by kernel_rfl))
  f317 := Tryd.func112.trans (congrArg some (by kernel_rfl))
  f318 := Tryd.func114.trans (congrArg some (by kernel_rfl))
  f319 := Tryd.func115.trans (congrArg some (by kernel_rfl))
  f320 := Tryd.func116.trans (congrArg some (by kernel_rfl))
  f337 := Tryd.func118.trans (congrArg some (by kernel_rfl))
  f338 := Tryd.func119.trans (congrArg some (by kernel_rfl))
  t0 := Tryd.underlying0
  a0 := Tryd.isAgg0
  z0 := Tryd.sizeOf0
  v0 := Tryd.zeroValue0
  t2 := Tryd.underlying2
  a2 := Tryd.isAgg2
  z2 := Tryd.sizeOf2
  v2 := Tryd.zeroValue2
  t3 := Tryd.underlying3
  a3 := Tryd.isAgg3
  z3 := Tryd.sizeOf3
  v3 := Tryd.zeroValue3
  t4 := Tryd.underlying4
  a4 := Tryd.isAgg4
  z4 := Tryd.sizeOf4
  v4 := Tryd.zeroValue4
  t5 := Tryd.underlying5
  a5 := Tryd.isAgg5
  z5 := Tryd.sizeOf5
  v5 := Tryd.zeroValue5
  t9 := Tryd.underlying9
  a9 := Tryd.isAgg9
  z9 := Tryd.sizeOf9
  v9 := Tryd.zeroValue9
  t20 := Tryd.underlying20
  a20 := Tryd.isAgg20
  z20 := Tryd.sizeOf20
  v20 := Tryd.zeroValue20
  t37 := Tryd.underlying27
  a37 := Tryd.isAgg27
  z37 := Tryd.sizeOf27
  v37 := Tryd.zeroValue27
  t46 := Tryd.underlying37
  a46 := Tryd.isAgg37
  z46 := Tryd.sizeOf37
  v46 := Tryd.zeroValue37
  t51 := Tryd.underlying157
  a51 := Tryd.isAgg157
  z51 := Tryd.sizeOf157
  v51 := Tryd.zeroValue157
  t53 := Tryd.underlying22
  a53 := Tryd.isAgg22
  z53 := Tryd.sizeOf22
  v53 := Tryd.zeroValue22
  t171 := Tryd.underlying147
  a171 := Tryd.isAgg147
  z171 := Tryd.sizeOf147
  v171 := Tryd.zeroValue147
  t173 := Tryd.underlying150
  a173 := Tryd.isAgg150
  z173 := Tryd.sizeOf150
  v173 := Tryd.zeroValue150
  t212 := Tryd.underlying156
  a212 := Tryd.isAgg156
  z212 := Tryd.sizeOf156
  v212 := Tryd.zeroValue156
  t213 := Tryd.underlying158
  a213 := Tryd.isAgg158
  z213 := Tryd.sizeOf158
  t232 := Tryd.underlying166
  a232 := Tryd.isAgg166
  z232 := Tryd.sizeOf166
  v232 := Tryd.zeroValue166
  t233 := Tryd.underlying167
  a233 := Tryd.isAgg167
  z233 := Tryd.sizeOf167
  v233 := Tryd.zeroValue167
  g17 := by kernel_rfl
  g18 := by kernel_rfl
  g19 := by kernel_rfl }
open Go.RowKit Go.Sort Go.Lib in
/-- THE ROAD WITHOUT THE TABLE: 0 <= i < 100: NO PREMISE ON THE WORLD, AND THE WORLD IS AS IT WAS: a row that keeps its argument in that range need list no table ('laid = []'). (LAID: no walk: one application.) -/
theorem Tryd.strconv_Itoa_small (i : Nat) (hi : i < 100) (w : World) :
    Calls Tryd.prog 50 #[.int .i64 i] w fun e w' => e = .returned (.string ⟨(Lib.decDigits i).toArray⟩) ∧ w' = w := Any.strconv_Itoa_small Tryd.lays171 i hi w
end Go.Proofs
namespace Go.Proofs.YtpmlnhddkbgefaaDoor
set_option linter.unusedVariables false
set_option linter.unusedSimpArgs false
open Go.RowKit Go.Sort

/-- The library's table of powers of ten lies as the program's text lays it. -/
def StrIs (w : World) : Prop := Lib.TabIs Tryd.prog w "internal/strconv.uint64pow10" .u64 Lib.pow10Tab
theorem gPow : Tryd.prog.globalNamed "internal/strconv.uint64pow10" = some 0 := by kernel_rfl
theorem tab_below' {n : String} {g : Nat} (hg : Tryd.prog.globalNamed n = some g) {k : IntKind} {zs : List Int} {w w' : World} (h : Lib.TabIs Tryd.prog w n k zs) (hb : Below w.heap.size w w') : Lib.TabIs Tryd.prog w' n k zs := by
  unfold Lib.TabIs World.var? at h ⊢
  rw [hg] at h ⊢
  simp only [Option.bind_some] at h ⊢
  have hlt : g < w.heap.size := by
    rcases Nat.lt_or_ge g w.heap.size with h' | h'
    · exact h'
    · rw [Array.getElem?_eq_none h'] at h; cases h
  rw [hb.block g hlt]
  exact h
theorem StrIs.below {w w' : World} (h : StrIs w) (hb : Below w.heap.size w w') : StrIs w' := tab_below' gPow h hb
instance : Stays StrIs := ⟨fun h hb => h.below hb⟩
class HasStr (T : World → Prop) : Prop where
  str : ∀ {w : World}, T w → StrIs w
instance : HasStr StrIs := ⟨fun h => h⟩

theorem below_grow (w : World) (k : Nat) (os : Array Obj) : Below w.heap.size w (grow (w.drewN k) os) :=
  ⟨rfl, rfl, rfl, by show w.heap.size ≤ (w.heap ++ os).size; simp, fun i hi => by show (w.heap ++ os)[i]? = w.heap[i]?; rw [Array.getElem?_append_left hi]⟩

def strconv_Itoa.f (a0 : Int) : Option ByteArray :=
  if -9223372036854775808 ≤ a0 ∧ a0 ≤ 9223372036854775807 then some (bs (Lib.itoa a0)) else none
theorem strconv_Itoa.calls {T_ : World → Prop} [HasStr T_] (a0 : Int) (r : ByteArray) (w : World) (hT_ : T_ w) (h : strconv_Itoa.f a0 = some r) :
    Calls Tryd.prog 50 #[.int .i64 a0] w fun e w' => e = .returned (.string r) ∧ Below w.heap.size w w' := by
  unfold strconv_Itoa.f at h
  by_cases hs : -9223372036854775808 ≤ a0 ∧ a0 ≤ 9223372036854775807
  · rw [if_pos hs] at h
    injection h with h
    subst h
    refine (Tryd.strconv_Itoa a0 hs.1 hs.2 w (HasStr.str hT_)).mono ?_
    rintro e w' ⟨rfl, k, os, rfl⟩
    exact ⟨rfl, below_grow _ _ _⟩
  · rw [if_neg hs] at h; cases h
end Go.Proofs.YtpmlnhddkbgefaaDoor
