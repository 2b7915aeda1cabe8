/-
  DERIVED. GIVEN WITH THE SEED: THE PROGRAM's TIES (one call each: nine closed facts by the kernel) AND EACH ROW's TIE, after the 31st guide's Derived/Test/Toyas{Tie, Card}.lean. No idea stands in it: it is a product of the set-up. Laid BY PROGRAM, IN A SANDBOX (cutbox-door.mjs). By AI agents, Wed Nov 11 2026. No macro, syntax, notation, axiom, sorry.
-/
import Derived.Test.YtapnlnikeniomaaDoorRows
import Derived.LaidByTextLater
import Derived.SevenTiedAt
import Derived.LaidSub
import Derived.LaidOnce
namespace Go.Proofs.YtapnlnikeniomaaDoor
open Go
set_option maxRecDepth 100000
theorem seatTie1 : Tryd.prog.laidByTextLater [("math/bits.deBruijn32tab", Rows.laid_math_bits_deBruijn32tab), ("math/bits.deBruijn64tab", Rows.laid_math_bits_deBruijn64tab), ("internal/strconv.uint64pow10", Rows.laid_internal_strconv_uint64pow10), ("bytes.ErrTooLarge", Rows.laid_bytes_ErrTooLarge), ("given.example/pub-conveyance/pub/squirrel.Question", Rows.laid_given_example_pub_conveyance_pub_squirrel_Question), ("given.example/pub-conveyance/pub/squirrel.Dollar", Rows.laid_given_example_pub_conveyance_pub_squirrel_Dollar), ("given.example/pub-conveyance/pub/squirrel.Colon", Rows.laid_given_example_pub_conveyance_pub_squirrel_Colon), ("given.example/pub-conveyance/pub/squirrel.AtP", Rows.laid_given_example_pub_conveyance_pub_squirrel_AtP)] [.data, .data, .data, .sentinel, .data, .data, .data, .data] true :=
  Program.laidByTextLater_by_one 63 8 65 (by kernel_rfl) (by kernel_rfl) (by kernel_rfl) (by kernel_rfl) (by kernel_rfl) (by kernel_rfl) (fun _ _ => by kernel_rfl)
theorem noOwnUnsafe : Tryd.pinned.checked.prog.headLifts.contains "ownunsafe" = false := by kernel_rfl
theorem tie : Tryd.prog.laidByTextLater [("math/bits.deBruijn32tab", Rows.laid_math_bits_deBruijn32tab), ("math/bits.deBruijn64tab", Rows.laid_math_bits_deBruijn64tab), ("internal/strconv.uint64pow10", Rows.laid_internal_strconv_uint64pow10), ("bytes.ErrTooLarge", Rows.laid_bytes_ErrTooLarge)] [.data, .data, .data, .sentinel] true :=
  Program.laidByTextLater.sub seatTie1 ["math/bits.deBruijn32tab", "math/bits.deBruijn64tab", "internal/strconv.uint64pow10", "bytes.ErrTooLarge"] (by kernel_rfl) (by kernel_rfl)
theorem fnPositional_row_tie : Rows.fnPositionalRow.laidByTextAt .later Tryd.pinned [.data, .data, .data, .sentinel] true :=
  OpenClaim.laidByTextAt_later rfl rfl tie noOwnUnsafe
theorem fnRebuffed_row_tie : Rows.fnRebuffedRow.laidByTextAt .later Tryd.pinned [.data, .data, .data, .sentinel] true :=
  OpenClaim.laidByTextAt_later rfl rfl tie noOwnUnsafe
theorem tie2 : Tryd.prog.laidByTextLater [("given.example/pub-conveyance/pub/squirrel.Question", Rows.laid_given_example_pub_conveyance_pub_squirrel_Question), ("given.example/pub-conveyance/pub/squirrel.Dollar", Rows.laid_given_example_pub_conveyance_pub_squirrel_Dollar), ("given.example/pub-conveyance/pub/squirrel.Colon", Rows.laid_given_example_pub_conveyance_pub_squirrel_Colon), ("given.example/pub-conveyance/pub/squirrel.AtP", Rows.laid_given_example_pub_conveyance_pub_squirrel_AtP)] [.data, .data, .data, .data] true :=
  Program.laidByTextLater.sub seatTie1 ["given.example/pub-conveyance/pub/squirrel.Question", "given.example/pub-conveyance/pub/squirrel.Dollar", "given.example/pub-conveyance/pub/squirrel.Colon", "given.example/pub-conveyance/pub/squirrel.AtP"] (by kernel_rfl) (by kernel_rfl)
theorem fnReplaced_row_tie : Rows.fnReplacedRow.laidByTextAt .later Tryd.pinned [.data, .data, .data, .data] true :=
  OpenClaim.laidByTextAt_later rfl rfl tie2 noOwnUnsafe
theorem fnReplacedBack_row_tie : Rows.fnReplacedBackRow.laidByTextAt .later Tryd.pinned [.data, .data, .data, .data] true :=
  OpenClaim.laidByTextAt_later rfl rfl tie2 noOwnUnsafe
theorem fnReplacedParts_row_tie : Rows.fnReplacedPartsRow.laidByTextAt .later Tryd.pinned [.data, .data, .data, .data] true :=
  OpenClaim.laidByTextAt_later rfl rfl tie2 noOwnUnsafe
theorem fnPositionalUpto_row_tie : Rows.fnPositionalUptoRow.laidByTextAt .later Tryd.pinned [.data, .data, .data, .sentinel] true :=
  OpenClaim.laidByTextAt_later rfl rfl tie noOwnUnsafe
theorem fnRebuffedUpto_row_tie : Rows.fnRebuffedUptoRow.laidByTextAt .later Tryd.pinned [.data, .data, .data, .sentinel] true :=
  OpenClaim.laidByTextAt_later rfl rfl tie noOwnUnsafe
theorem fnReplacedUpto_row_tie : Rows.fnReplacedUptoRow.laidByTextAt .later Tryd.pinned [.data, .data, .data, .data] true :=
  OpenClaim.laidByTextAt_later rfl rfl tie2 noOwnUnsafe
theorem fnReplacedBackUpto_row_tie : Rows.fnReplacedBackUptoRow.laidByTextAt .later Tryd.pinned [.data, .data, .data, .data] true :=
  OpenClaim.laidByTextAt_later rfl rfl tie2 noOwnUnsafe
theorem fnReplacedPartsUpto_row_tie : Rows.fnReplacedPartsUptoRow.laidByTextAt .later Tryd.pinned [.data, .data, .data, .data] true :=
  OpenClaim.laidByTextAt_later rfl rfl tie2 noOwnUnsafe
end Go.Proofs.YtapnlnikeniomaaDoor
