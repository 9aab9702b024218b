/-
  DERIVED. GIVEN WITH THE SEED: THE PROGRAM's TIES (one call each: nine closed facts by the kernel) AND EACH ROW's TIE, after the 31st guide's Derived/Test/Toyas{Tie, Card}.lean. No idea stands in it: it is a product of the set-up. Laid BY PROGRAM, IN A SANDBOX (cutbox-door.mjs). By AI agents, Wed Nov 11 2026. No macro, syntax, notation, axiom, sorry.
-/
import Derived.Test.YtnpnmfblcogkmaaDoorRows
import Derived.LaidByTextLater
import Derived.SevenTiedAt
import Derived.LaidSub
import Derived.LaidOnce
namespace Go.Proofs.YtnpnmfblcogkmaaDoor
open Go
set_option maxRecDepth 100000
theorem seatTie1 : Tryd.prog.laidByTextLater [("math/bits.deBruijn32tab", Rows.laid_math_bits_deBruijn32tab), ("math/bits.deBruijn64tab", Rows.laid_math_bits_deBruijn64tab), ("internal/strconv.uint64pow10", Rows.laid_internal_strconv_uint64pow10), ("unicode.White_Space", Rows.laid_unicode_White_Space), ("loop.example/pub-goexprs/pub/goparse_go_token.tokens", Rows.laid_loop_example_pub_goexprs_pub_goparse_go_token_tokens), ("strings.asciiSpace", Rows.laid_strings_asciiSpace)] [.data, .data, .data, .listed, .data, .data] true :=
  Program.laidByTextLater_by_one 53 8 257 (by kernel_rfl) (by kernel_rfl) (by kernel_rfl) (by kernel_rfl) (by kernel_rfl) (by kernel_rfl) (fun _ _ => by kernel_rfl)
theorem seatTie2 : Tryd.prog.laidByTextLater [("math/bits.deBruijn32tab", Rows.laid_math_bits_deBruijn32tab), ("math/bits.deBruijn64tab", Rows.laid_math_bits_deBruijn64tab), ("internal/strconv.uint64pow10", Rows.laid_internal_strconv_uint64pow10), ("loop.example/pub-goexprs/pub/goparse_go_token.tokens", Rows.laid_loop_example_pub_goexprs_pub_goparse_go_token_tokens)] [.data, .data, .data, .data] true :=
  Program.laidByTextLater_by_one 53 8 257 (by kernel_rfl) (by kernel_rfl) (by kernel_rfl) (by kernel_rfl) (by kernel_rfl) (by kernel_rfl) (fun _ _ => by kernel_rfl)
theorem noOwnUnsafe : Tryd.pinned.checked.prog.headLifts.contains "ownunsafe" = false := by kernel_rfl
theorem tie : Tryd.prog.laidByTextLater [("math/bits.deBruijn32tab", Rows.laid_math_bits_deBruijn32tab), ("math/bits.deBruijn64tab", Rows.laid_math_bits_deBruijn64tab), ("internal/strconv.uint64pow10", Rows.laid_internal_strconv_uint64pow10), ("unicode.White_Space", Rows.laid_unicode_White_Space), ("loop.example/pub-goexprs/pub/goparse_go_token.tokens", Rows.laid_loop_example_pub_goexprs_pub_goparse_go_token_tokens), ("strings.asciiSpace", Rows.laid_strings_asciiSpace)] [.data, .data, .data, .listed, .data, .data] true :=
  Program.laidByTextLater.sub seatTie1 ["math/bits.deBruijn32tab", "math/bits.deBruijn64tab", "internal/strconv.uint64pow10", "unicode.White_Space", "loop.example/pub-goexprs/pub/goparse_go_token.tokens", "strings.asciiSpace"] (by kernel_rfl) (by kernel_rfl)
theorem fnExactPrecedence_row_tie : Rows.fnExactPrecedenceRow.laidByTextAt .later Tryd.pinned [.data, .data, .data, .listed, .data, .data] true :=
  OpenClaim.laidByTextAt_later rfl rfl tie noOwnUnsafe
theorem tie2 : Tryd.prog.laidByTextLater [("math/bits.deBruijn32tab", Rows.laid_math_bits_deBruijn32tab), ("math/bits.deBruijn64tab", Rows.laid_math_bits_deBruijn64tab), ("internal/strconv.uint64pow10", Rows.laid_internal_strconv_uint64pow10), ("loop.example/pub-goexprs/pub/goparse_go_token.tokens", Rows.laid_loop_example_pub_goexprs_pub_goparse_go_token_tokens)] [.data, .data, .data, .data] true :=
  Program.laidByTextLater.sub seatTie2 ["math/bits.deBruijn32tab", "math/bits.deBruijn64tab", "internal/strconv.uint64pow10", "loop.example/pub-goexprs/pub/goparse_go_token.tokens"] (by kernel_rfl) (by kernel_rfl)
theorem fnExactBareData_row_tie : Rows.fnExactBareDataRow.laidByTextAt .later Tryd.pinned [.data, .data, .data, .data] true :=
  OpenClaim.laidByTextAt_later rfl rfl tie2 noOwnUnsafe
theorem fnExactPrecedenceUpto_row_tie : Rows.fnExactPrecedenceUptoRow.laidByTextAt .later Tryd.pinned [.data, .data, .data, .listed, .data, .data] true :=
  OpenClaim.laidByTextAt_later rfl rfl tie noOwnUnsafe
theorem fnExactBareDataUpto_row_tie : Rows.fnExactBareDataUptoRow.laidByTextAt .later Tryd.pinned [.data, .data, .data, .data] true :=
  OpenClaim.laidByTextAt_later rfl rfl tie2 noOwnUnsafe
end Go.Proofs.YtnpnmfblcogkmaaDoor
