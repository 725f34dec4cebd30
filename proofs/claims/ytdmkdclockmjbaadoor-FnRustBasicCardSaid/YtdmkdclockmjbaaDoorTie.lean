/-
  DERIVED. GIVEN WITH THE SEED: THE PROGRAM's TIES (one call each: nine closed facts by the kernel) AND EACH ROW's TIE, after the 31st guide's Derived/Test/Toyas{Tie, Card}.lean. No idea stands in it: it is a product of the set-up. Laid BY PROGRAM, IN A SANDBOX (cutbox-door.mjs). By AI agents, Wed Nov 11 2026. No macro, syntax, notation, axiom, sorry.
-/
import Derived.Test.YtdmkdclockmjbaaDoorRows
import Derived.LaidByTextLater
import Derived.SevenTiedAt
import Derived.LaidSub
import Derived.LaidOnce
namespace Go.Proofs.YtdmkdclockmjbaaDoor
open Go
set_option maxRecDepth 100000
theorem seatTie1 : Tryd.prog.laidByTextLater [("math/bits.deBruijn32tab", Rows.laid_math_bits_deBruijn32tab), ("math/bits.deBruijn64tab", Rows.laid_math_bits_deBruijn64tab), ("internal/strconv.uint64pow10", Rows.laid_internal_strconv_uint64pow10), ("loop.example/pub-g01453/pub/rustdemangle.ErrNotMangledName", Rows.laid_loop_example_pub_g01453_pub_rustdemangle_ErrNotMangledName), ("loop.example/pub-g01453/pub/rustdemangle.rustBasicTypes", Rows.laid_loop_example_pub_g01453_pub_rustdemangle_rustBasicTypes)] [.data, .data, .data, .sentinel, .mapped] true :=
  Program.laidByTextLater_by_one 153 8 65 (by kernel_rfl) (by kernel_rfl) (by kernel_rfl) (by kernel_rfl) (by kernel_rfl) (by kernel_rfl) (fun _ _ => by kernel_rfl)
theorem noOwnUnsafe : Tryd.pinned.checked.prog.headLifts.contains "ownunsafe" = false := by kernel_rfl
theorem tie : Tryd.prog.laidByTextLater [("math/bits.deBruijn32tab", Rows.laid_math_bits_deBruijn32tab), ("math/bits.deBruijn64tab", Rows.laid_math_bits_deBruijn64tab), ("internal/strconv.uint64pow10", Rows.laid_internal_strconv_uint64pow10), ("loop.example/pub-g01453/pub/rustdemangle.ErrNotMangledName", Rows.laid_loop_example_pub_g01453_pub_rustdemangle_ErrNotMangledName), ("loop.example/pub-g01453/pub/rustdemangle.rustBasicTypes", Rows.laid_loop_example_pub_g01453_pub_rustdemangle_rustBasicTypes)] [.data, .data, .data, .sentinel, .mapped] true :=
  Program.laidByTextLater.sub seatTie1 ["math/bits.deBruijn32tab", "math/bits.deBruijn64tab", "internal/strconv.uint64pow10", "loop.example/pub-g01453/pub/rustdemangle.ErrNotMangledName", "loop.example/pub-g01453/pub/rustdemangle.rustBasicTypes"] (by kernel_rfl) (by kernel_rfl)
theorem fnRustBasic_row_tie : Rows.fnRustBasicRow.laidByTextAt .later Tryd.pinned [.data, .data, .data, .sentinel, .mapped] true :=
  OpenClaim.laidByTextAt_later rfl rfl tie noOwnUnsafe
theorem fnLongerRefused_row_tie : Rows.fnLongerRefusedRow.laidByTextAt .later Tryd.pinned [.data, .data, .data, .sentinel, .mapped] true :=
  OpenClaim.laidByTextAt_later rfl rfl tie noOwnUnsafe
theorem fnNoSpaceRefused_row_tie : Rows.fnNoSpaceRefusedRow.laidByTextAt .later Tryd.pinned [.data, .data, .data, .sentinel, .mapped] true :=
  OpenClaim.laidByTextAt_later rfl rfl tie noOwnUnsafe
theorem fnSeparatorTaken_row_tie : Rows.fnSeparatorTakenRow.laidByTextAt .later Tryd.pinned [.data, .data, .data, .sentinel, .mapped] true :=
  OpenClaim.laidByTextAt_later rfl rfl tie noOwnUnsafe
theorem fnRustBasicUpto_row_tie : Rows.fnRustBasicUptoRow.laidByTextAt .later Tryd.pinned [.data, .data, .data, .sentinel, .mapped] true :=
  OpenClaim.laidByTextAt_later rfl rfl tie noOwnUnsafe
theorem fnLongerRefusedUpto_row_tie : Rows.fnLongerRefusedUptoRow.laidByTextAt .later Tryd.pinned [.data, .data, .data, .sentinel, .mapped] true :=
  OpenClaim.laidByTextAt_later rfl rfl tie noOwnUnsafe
theorem fnNoSpaceRefusedUpto_row_tie : Rows.fnNoSpaceRefusedUptoRow.laidByTextAt .later Tryd.pinned [.data, .data, .data, .sentinel, .mapped] true :=
  OpenClaim.laidByTextAt_later rfl rfl tie noOwnUnsafe
theorem fnSeparatorTakenUpto_row_tie : Rows.fnSeparatorTakenUptoRow.laidByTextAt .later Tryd.pinned [.data, .data, .data, .sentinel, .mapped] true :=
  OpenClaim.laidByTextAt_later rfl rfl tie noOwnUnsafe
end Go.Proofs.YtdmkdclockmjbaaDoor
