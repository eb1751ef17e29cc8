/-
  DERIVED. GIVEN WITH THE SEED: THE PROGRAM's TIES (one call each: nine closed facts by the kernel) AND EACH ROW's TIE, after the 31st guide's Derived/Test/Toyas{Tie, Card}.lean. No idea stands in it: it is a product of the set-up. Laid BY PROGRAM, IN A SANDBOX (cutbox-door.mjs). By AI agents, Wed Nov 11 2026. No macro, syntax, notation, axiom, sorry.
-/
import Derived.Test.YtfcedenofbefcaaGreatDoorRows
import Derived.LaidByTextLater
import Derived.SevenTiedAt
import Derived.LaidSub
import Derived.LaidOnce
namespace Go.Proofs.YtfcedenofbefcaaGreatDoor
open Go
set_option maxRecDepth 100000
theorem seatTie1 : Tryz.prog.laidByTextLater [("math/bits.deBruijn32tab", Rows.laid_math_bits_deBruijn32tab), ("math/bits.deBruijn64tab", Rows.laid_math_bits_deBruijn64tab), ("internal/strconv.uint64pow10", Rows.laid_internal_strconv_uint64pow10), ("io.EOF", Rows.laid_io_EOF), ("unicode.properties", Rows.laid_unicode_properties)] [.data, .data, .data, .sentinel, .data] true :=
  Program.laidByTextLater_by_one 58 8 257 (by kernel_rfl) (by kernel_rfl) (by kernel_rfl) (by kernel_rfl) (by kernel_rfl) (by kernel_rfl) (fun _ _ => by kernel_rfl)
theorem seatTie2 : Tryz.prog.laidByTextLater [("math/bits.deBruijn32tab", Rows.laid_math_bits_deBruijn32tab), ("math/bits.deBruijn64tab", Rows.laid_math_bits_deBruijn64tab), ("internal/strconv.uint64pow10", Rows.laid_internal_strconv_uint64pow10), ("io.EOF", Rows.laid_io_EOF), ("unicode.properties", Rows.laid_unicode_properties), ("loop.example/pub-g01476/pub/tdhtml._Hash_table", Rows.laid_loop_example_pub_g01476_pub_tdhtml_Hash_table)] [.data, .data, .data, .sentinel, .data, .data] true :=
  Program.laidByTextLater_by_one 58 8 257 (by kernel_rfl) (by kernel_rfl) (by kernel_rfl) (by kernel_rfl) (by kernel_rfl) (by kernel_rfl) (fun _ _ => by kernel_rfl)
theorem seatTie3 : Tryz.prog.laidByTextLater [("math/bits.deBruijn32tab", Rows.laid_math_bits_deBruijn32tab), ("math/bits.deBruijn64tab", Rows.laid_math_bits_deBruijn64tab), ("internal/strconv.uint64pow10", Rows.laid_internal_strconv_uint64pow10), ("io.EOF", Rows.laid_io_EOF), ("unicode.properties", Rows.laid_unicode_properties), ("loop.example/pub-g01476/pub/tdhtml._Hash_table", Rows.laid_loop_example_pub_g01476_pub_tdhtml_Hash_table), ("loop.example/pub-g01476/pub/tdhtml.charTable", Rows.laid_loop_example_pub_g01476_pub_tdhtml_charTable)] [.data, .data, .data, .sentinel, .data, .data, .data] true :=
  Program.laidByTextLater_by_one 58 8 257 (by kernel_rfl) (by kernel_rfl) (by kernel_rfl) (by kernel_rfl) (by kernel_rfl) (by kernel_rfl) (fun _ _ => by kernel_rfl)
theorem noOwnUnsafe : Tryz.pinned.checked.prog.headLifts.contains "ownunsafe" = false := by kernel_rfl
theorem tie : Tryz.prog.laidByTextLater [("math/bits.deBruijn32tab", Rows.laid_math_bits_deBruijn32tab), ("math/bits.deBruijn64tab", Rows.laid_math_bits_deBruijn64tab), ("internal/strconv.uint64pow10", Rows.laid_internal_strconv_uint64pow10), ("io.EOF", Rows.laid_io_EOF), ("unicode.properties", Rows.laid_unicode_properties)] [.data, .data, .data, .sentinel, .data] true :=
  Program.laidByTextLater.sub seatTie1 ["math/bits.deBruijn32tab", "math/bits.deBruijn64tab", "internal/strconv.uint64pow10", "io.EOF", "unicode.properties"] (by kernel_rfl) (by kernel_rfl)
theorem fnXML_row_tie : Rows.fnXMLRow.laidByTextAt .later Tryz.pinned [.data, .data, .data, .sentinel, .data] true :=
  OpenClaim.laidByTextAt_later rfl rfl tie noOwnUnsafe
theorem tie2 : Tryz.prog.laidByTextLater [("math/bits.deBruijn32tab", Rows.laid_math_bits_deBruijn32tab), ("math/bits.deBruijn64tab", Rows.laid_math_bits_deBruijn64tab), ("internal/strconv.uint64pow10", Rows.laid_internal_strconv_uint64pow10), ("io.EOF", Rows.laid_io_EOF), ("unicode.properties", Rows.laid_unicode_properties), ("loop.example/pub-g01476/pub/tdhtml._Hash_table", Rows.laid_loop_example_pub_g01476_pub_tdhtml_Hash_table)] [.data, .data, .data, .sentinel, .data, .data] true :=
  Program.laidByTextLater.sub seatTie2 ["math/bits.deBruijn32tab", "math/bits.deBruijn64tab", "internal/strconv.uint64pow10", "io.EOF", "unicode.properties", "loop.example/pub-g01476/pub/tdhtml._Hash_table"] (by kernel_rfl) (by kernel_rfl)
theorem fnHTML_row_tie : Rows.fnHTMLRow.laidByTextAt .later Tryz.pinned [.data, .data, .data, .sentinel, .data, .data] true :=
  OpenClaim.laidByTextAt_later rfl rfl tie2 noOwnUnsafe
theorem fnHTMLRaw_row_tie : Rows.fnHTMLRawRow.laidByTextAt .later Tryz.pinned [.data, .data, .data, .sentinel, .data, .data] true :=
  OpenClaim.laidByTextAt_later rfl rfl tie2 noOwnUnsafe
theorem tie3 : Tryz.prog.laidByTextLater [("math/bits.deBruijn32tab", Rows.laid_math_bits_deBruijn32tab), ("math/bits.deBruijn64tab", Rows.laid_math_bits_deBruijn64tab), ("internal/strconv.uint64pow10", Rows.laid_internal_strconv_uint64pow10), ("io.EOF", Rows.laid_io_EOF), ("unicode.properties", Rows.laid_unicode_properties), ("loop.example/pub-g01476/pub/tdhtml._Hash_table", Rows.laid_loop_example_pub_g01476_pub_tdhtml_Hash_table), ("loop.example/pub-g01476/pub/tdhtml.charTable", Rows.laid_loop_example_pub_g01476_pub_tdhtml_charTable)] [.data, .data, .data, .sentinel, .data, .data, .data] true :=
  Program.laidByTextLater.sub seatTie3 ["math/bits.deBruijn32tab", "math/bits.deBruijn64tab", "internal/strconv.uint64pow10", "io.EOF", "unicode.properties", "loop.example/pub-g01476/pub/tdhtml._Hash_table", "loop.example/pub-g01476/pub/tdhtml.charTable"] (by kernel_rfl) (by kernel_rfl)
theorem fnHTMLValueRead_row_tie : Rows.fnHTMLValueReadRow.laidByTextAt .later Tryz.pinned [.data, .data, .data, .sentinel, .data, .data, .data] true :=
  OpenClaim.laidByTextAt_later rfl rfl tie3 noOwnUnsafe
theorem fnXMLUpto_row_tie : Rows.fnXMLUptoRow.laidByTextAt .later Tryz.pinned [.data, .data, .data, .sentinel, .data] true :=
  OpenClaim.laidByTextAt_later rfl rfl tie noOwnUnsafe
theorem fnHTMLUpto_row_tie : Rows.fnHTMLUptoRow.laidByTextAt .later Tryz.pinned [.data, .data, .data, .sentinel, .data, .data] true :=
  OpenClaim.laidByTextAt_later rfl rfl tie2 noOwnUnsafe
theorem fnHTMLRawUpto_row_tie : Rows.fnHTMLRawUptoRow.laidByTextAt .later Tryz.pinned [.data, .data, .data, .sentinel, .data, .data] true :=
  OpenClaim.laidByTextAt_later rfl rfl tie2 noOwnUnsafe
theorem fnHTMLValueReadUpto_row_tie : Rows.fnHTMLValueReadUptoRow.laidByTextAt .later Tryz.pinned [.data, .data, .data, .sentinel, .data, .data, .data] true :=
  OpenClaim.laidByTextAt_later rfl rfl tie3 noOwnUnsafe
end Go.Proofs.YtfcedenofbefcaaGreatDoor
