/-
  DERIVED. GIVEN WITH THE SEED: THE PROGRAM's TIES (one call each: nine closed facts by the kernel) AND EACH ROW's TIE, after the 31st guide's Derived/Test/Toyas{Tie, Card}.lean. No idea stands in it: it is a product of the set-up. Laid BY PROGRAM, IN A SANDBOX (cutbox-door.mjs). By AI agents, Wed Nov 11 2026. No macro, syntax, notation, axiom, sorry.
-/
import Derived.Test.YtfodkjpjejoemaaGreatDoorRows
import Derived.LaidByTextLater
import Derived.SevenTiedAt
import Derived.LaidSub
import Derived.LaidOnce
namespace Go.Proofs.YtfodkjpjejoemaaGreatDoor
open Go
set_option maxRecDepth 100000
theorem seatTie1 : Tryz.prog.laidByTextLater [("treesandproofs/pub/sha256._K", Rows.laid_treesandproofs_pub_sha256_K), ("encoding/hex.ErrLength", Rows.laid_encoding_hex_ErrLength), ("treesandproofs/pub/neturl.table", Rows.laid_treesandproofs_pub_neturl_table), ("treesandproofs/pub/cometmerkle.ErrMaxAuntsLenExceeded", Rows.laid_treesandproofs_pub_cometmerkle_ErrMaxAuntsLenExceeded), ("treesandproofs/pub/cometmerkle.ErrKeyPathNotConsumed", Rows.laid_treesandproofs_pub_cometmerkle_ErrKeyPathNotConsumed), ("treesandproofs/pub/cometmerkle.errWire", Rows.laid_treesandproofs_pub_cometmerkle_errWire)] [.data, .sentinel, .data, .sentinel, .sentinel, .sentinel] true :=
  Program.laidByTextLater_by_one 133 8 257 (by kernel_rfl) (by kernel_rfl) (by kernel_rfl) (by kernel_rfl) (by kernel_rfl) (by kernel_rfl) (fun _ _ => by kernel_rfl)
theorem noOwnUnsafe : Tryz.pinned.checked.prog.headLifts.contains "ownunsafe" = false := by kernel_rfl
theorem tie : Tryz.prog.laidByTextLater [("treesandproofs/pub/sha256._K", Rows.laid_treesandproofs_pub_sha256_K), ("encoding/hex.ErrLength", Rows.laid_encoding_hex_ErrLength), ("treesandproofs/pub/neturl.table", Rows.laid_treesandproofs_pub_neturl_table), ("treesandproofs/pub/cometmerkle.ErrMaxAuntsLenExceeded", Rows.laid_treesandproofs_pub_cometmerkle_ErrMaxAuntsLenExceeded), ("treesandproofs/pub/cometmerkle.ErrKeyPathNotConsumed", Rows.laid_treesandproofs_pub_cometmerkle_ErrKeyPathNotConsumed), ("treesandproofs/pub/cometmerkle.errWire", Rows.laid_treesandproofs_pub_cometmerkle_errWire)] [.data, .sentinel, .data, .sentinel, .sentinel, .sentinel] true :=
  Program.laidByTextLater.sub seatTie1 ["treesandproofs/pub/sha256._K", "encoding/hex.ErrLength", "treesandproofs/pub/neturl.table", "treesandproofs/pub/cometmerkle.ErrMaxAuntsLenExceeded", "treesandproofs/pub/cometmerkle.ErrKeyPathNotConsumed", "treesandproofs/pub/cometmerkle.errWire"] (by kernel_rfl) (by kernel_rfl)
theorem fnChained_row_tie : Rows.fnChainedRow.laidByTextAt .later Tryz.pinned [.data, .sentinel, .data, .sentinel, .sentinel, .sentinel] true :=
  OpenClaim.laidByTextAt_later rfl rfl tie noOwnUnsafe
theorem fnChainedUpto_row_tie : Rows.fnChainedUptoRow.laidByTextAt .later Tryz.pinned [.data, .sentinel, .data, .sentinel, .sentinel, .sentinel] true :=
  OpenClaim.laidByTextAt_later rfl rfl tie noOwnUnsafe
end Go.Proofs.YtfodkjpjejoemaaGreatDoor
