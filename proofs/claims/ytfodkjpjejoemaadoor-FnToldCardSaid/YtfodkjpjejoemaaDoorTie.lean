/-
  DERIVED. GIVEN WITH THE SEED: THE PROGRAM's TIES (one call each: nine closed facts by the kernel) AND EACH ROW's TIE, after the 31st guide's Derived/Test/Toyas{Tie, Card}.lean. No idea stands in it: it is a product of the set-up. Laid BY PROGRAM, IN A SANDBOX (cutbox-door.mjs). By AI agents, Wed Nov 11 2026. No macro, syntax, notation, axiom, sorry.
-/
import Derived.Test.YtfodkjpjejoemaaDoorRows
import Derived.LaidByTextLater
import Derived.SevenTiedAt
import Derived.LaidSub
import Derived.LaidOnce
namespace Go.Proofs.YtfodkjpjejoemaaDoor
open Go
set_option maxRecDepth 100000
theorem seatTie1 : Tryd.prog.laidByTextLater [("math/bits.deBruijn32tab", Rows.laid_math_bits_deBruijn32tab), ("math/bits.deBruijn64tab", Rows.laid_math_bits_deBruijn64tab), ("internal/strconv.uint64pow10", Rows.laid_internal_strconv_uint64pow10), ("treesandproofs/pub/sha256._K", Rows.laid_treesandproofs_pub_sha256_K), ("treesandproofs/pub/cometmerkle.ErrMaxAuntsLenExceeded", Rows.laid_treesandproofs_pub_cometmerkle_ErrMaxAuntsLenExceeded), ("treesandproofs/pub/cometmerkle.errWire", Rows.laid_treesandproofs_pub_cometmerkle_errWire)] [.data, .data, .data, .data, .sentinel, .sentinel] true :=
  Program.laidByTextLater_by_one 91 8 257 (by kernel_rfl) (by kernel_rfl) (by kernel_rfl) (by kernel_rfl) (by kernel_rfl) (by kernel_rfl) (fun _ _ => by kernel_rfl)
theorem seatTie2 : Tryd.prog.laidByTextLater [("encoding/hex.ErrLength", Rows.laid_encoding_hex_ErrLength), ("treesandproofs/pub/neturl.table", Rows.laid_treesandproofs_pub_neturl_table)] [.sentinel, .data] true :=
  Program.laidByTextLater_by_one 91 8 257 (by kernel_rfl) (by kernel_rfl) (by kernel_rfl) (by kernel_rfl) (by kernel_rfl) (by kernel_rfl) (fun _ _ => by kernel_rfl)
theorem noOwnUnsafe : Tryd.pinned.checked.prog.headLifts.contains "ownunsafe" = false := by kernel_rfl
theorem tie : Tryd.prog.laidByTextLater [("treesandproofs/pub/cometmerkle.ErrMaxAuntsLenExceeded", Rows.laid_treesandproofs_pub_cometmerkle_ErrMaxAuntsLenExceeded)] [.sentinel] true :=
  Program.laidByTextLater.sub seatTie1 ["treesandproofs/pub/cometmerkle.ErrMaxAuntsLenExceeded"] (by kernel_rfl) (by kernel_rfl)
theorem fnValid_row_tie : Rows.fnValidRow.laidByTextAt .later Tryd.pinned [.sentinel] true :=
  OpenClaim.laidByTextAt_later rfl rfl tie noOwnUnsafe
theorem tie2 : Tryd.prog.laidByTextLater [("treesandproofs/pub/sha256._K", Rows.laid_treesandproofs_pub_sha256_K)] [.data] true :=
  Program.laidByTextLater.sub seatTie1 ["treesandproofs/pub/sha256._K"] (by kernel_rfl) (by kernel_rfl)
theorem fnSum_row_tie : Rows.fnSumRow.laidByTextAt .later Tryd.pinned [.data] true :=
  OpenClaim.laidByTextAt_later rfl rfl tie2 noOwnUnsafe
theorem fnRoot_row_tie : Rows.fnRootRow.laidByTextAt .later Tryd.pinned [.data] true :=
  OpenClaim.laidByTextAt_later rfl rfl tie2 noOwnUnsafe
theorem fnForged_row_tie : Rows.fnForgedRow.laidByTextAt .later Tryd.pinned [.data] true :=
  OpenClaim.laidByTextAt_later rfl rfl tie2 noOwnUnsafe
theorem tie3 : Tryd.prog.laidByTextLater [("treesandproofs/pub/cometmerkle.ErrMaxAuntsLenExceeded", Rows.laid_treesandproofs_pub_cometmerkle_ErrMaxAuntsLenExceeded), ("treesandproofs/pub/cometmerkle.errWire", Rows.laid_treesandproofs_pub_cometmerkle_errWire)] [.sentinel, .sentinel] true :=
  Program.laidByTextLater.sub seatTie1 ["treesandproofs/pub/cometmerkle.ErrMaxAuntsLenExceeded", "treesandproofs/pub/cometmerkle.errWire"] (by kernel_rfl) (by kernel_rfl)
theorem fnMessage_row_tie : Rows.fnMessageRow.laidByTextAt .later Tryd.pinned [.sentinel, .sentinel] true :=
  OpenClaim.laidByTextAt_later rfl rfl tie3 noOwnUnsafe
theorem tie4 : Tryd.prog.laidByTextLater [("encoding/hex.ErrLength", Rows.laid_encoding_hex_ErrLength), ("treesandproofs/pub/neturl.table", Rows.laid_treesandproofs_pub_neturl_table)] [.sentinel, .data] true :=
  Program.laidByTextLater.sub seatTie2 ["encoding/hex.ErrLength", "treesandproofs/pub/neturl.table"] (by kernel_rfl) (by kernel_rfl)
theorem fnKeys_row_tie : Rows.fnKeysRow.laidByTextAt .later Tryd.pinned [.sentinel, .data] true :=
  OpenClaim.laidByTextAt_later rfl rfl tie4 noOwnUnsafe
theorem fnPath_row_tie : Rows.fnPathRow.laidByTextAt .later Tryd.pinned [.sentinel, .data] true :=
  OpenClaim.laidByTextAt_later rfl rfl tie4 noOwnUnsafe
theorem tie5 : Tryd.prog.laidByTextLater [("treesandproofs/pub/sha256._K", Rows.laid_treesandproofs_pub_sha256_K), ("treesandproofs/pub/cometmerkle.ErrMaxAuntsLenExceeded", Rows.laid_treesandproofs_pub_cometmerkle_ErrMaxAuntsLenExceeded)] [.data, .sentinel] true :=
  Program.laidByTextLater.sub seatTie1 ["treesandproofs/pub/sha256._K", "treesandproofs/pub/cometmerkle.ErrMaxAuntsLenExceeded"] (by kernel_rfl) (by kernel_rfl)
theorem fnProofs_row_tie : Rows.fnProofsRow.laidByTextAt .later Tryd.pinned [.data, .sentinel] true :=
  OpenClaim.laidByTextAt_later rfl rfl tie5 noOwnUnsafe
theorem tie6 : Tryd.prog.laidByTextLater [("math/bits.deBruijn32tab", Rows.laid_math_bits_deBruijn32tab), ("math/bits.deBruijn64tab", Rows.laid_math_bits_deBruijn64tab), ("internal/strconv.uint64pow10", Rows.laid_internal_strconv_uint64pow10)] [.data, .data, .data] true :=
  Program.laidByTextLater.sub seatTie1 ["math/bits.deBruijn32tab", "math/bits.deBruijn64tab", "internal/strconv.uint64pow10"] (by kernel_rfl) (by kernel_rfl)
theorem fnTold_row_tie : Rows.fnToldRow.laidByTextAt .later Tryd.pinned [.data, .data, .data] true :=
  OpenClaim.laidByTextAt_later rfl rfl tie6 noOwnUnsafe
theorem fnValidUpto_row_tie : Rows.fnValidUptoRow.laidByTextAt .later Tryd.pinned [.sentinel] true :=
  OpenClaim.laidByTextAt_later rfl rfl tie noOwnUnsafe
theorem fnSumUpto_row_tie : Rows.fnSumUptoRow.laidByTextAt .later Tryd.pinned [.data] true :=
  OpenClaim.laidByTextAt_later rfl rfl tie2 noOwnUnsafe
theorem fnMessageUpto_row_tie : Rows.fnMessageUptoRow.laidByTextAt .later Tryd.pinned [.sentinel, .sentinel] true :=
  OpenClaim.laidByTextAt_later rfl rfl tie3 noOwnUnsafe
theorem fnKeysUpto_row_tie : Rows.fnKeysUptoRow.laidByTextAt .later Tryd.pinned [.sentinel, .data] true :=
  OpenClaim.laidByTextAt_later rfl rfl tie4 noOwnUnsafe
theorem fnRootUpto_row_tie : Rows.fnRootUptoRow.laidByTextAt .later Tryd.pinned [.data] true :=
  OpenClaim.laidByTextAt_later rfl rfl tie2 noOwnUnsafe
theorem fnPathUpto_row_tie : Rows.fnPathUptoRow.laidByTextAt .later Tryd.pinned [.sentinel, .data] true :=
  OpenClaim.laidByTextAt_later rfl rfl tie4 noOwnUnsafe
theorem fnForgedUpto_row_tie : Rows.fnForgedUptoRow.laidByTextAt .later Tryd.pinned [.data] true :=
  OpenClaim.laidByTextAt_later rfl rfl tie2 noOwnUnsafe
theorem fnProofsUpto_row_tie : Rows.fnProofsUptoRow.laidByTextAt .later Tryd.pinned [.data, .sentinel] true :=
  OpenClaim.laidByTextAt_later rfl rfl tie5 noOwnUnsafe
theorem fnToldUpto_row_tie : Rows.fnToldUptoRow.laidByTextAt .later Tryd.pinned [.data, .data, .data] true :=
  OpenClaim.laidByTextAt_later rfl rfl tie6 noOwnUnsafe
end Go.Proofs.YtfodkjpjejoemaaDoor
