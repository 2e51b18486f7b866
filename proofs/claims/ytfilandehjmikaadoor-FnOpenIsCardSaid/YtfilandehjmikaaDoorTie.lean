/-
  DERIVED. GIVEN WITH THE SEED: THE PROGRAM's TIES (one call each: nine closed facts by the kernel) AND EACH ROW's TIE, after the 31st guide's Derived/Test/Toyas{Tie, Card}.lean. No idea stands in it: it is a product of the set-up. Laid BY PROGRAM, IN A SANDBOX (cutbox-door.mjs). By AI agents, Wed Nov 11 2026. No macro, syntax, notation, axiom, sorry.
-/
import Derived.Test.YtfilandehjmikaaDoorRows
import Derived.LaidByTextLater
import Derived.SevenTiedAt
import Derived.LaidSub
import Derived.LaidOnce
namespace Go.Proofs.YtfilandehjmikaaDoor
open Go
set_option maxRecDepth 100000
theorem seatTie1 : Tryd.prog.laidByTextLater [("loop.example/pub-g03031/pub/circl/cipher/ascon.ErrKeySize", Rows.laid_loop_example_pub_g03031_pub_circl_cipher_ascon_ErrKeySize), ("loop.example/pub-g03031/pub/circl/cipher/ascon.ErrNonceSize", Rows.laid_loop_example_pub_g03031_pub_circl_cipher_ascon_ErrNonceSize), ("loop.example/pub-g03031/pub/circl/cipher/ascon.ErrDecryption", Rows.laid_loop_example_pub_g03031_pub_circl_cipher_ascon_ErrDecryption), ("loop.example/pub-g03031/pub/circl/cipher/ascon.ErrMode", Rows.laid_loop_example_pub_g03031_pub_circl_cipher_ascon_ErrMode)] [.sentinel, .sentinel, .sentinel, .sentinel] true :=
  Program.laidByTextLater_by_one 85 8 2 (by kernel_rfl) (by kernel_rfl) (by kernel_rfl) (by kernel_rfl) (by kernel_rfl) (by kernel_rfl) (fun _ _ => by kernel_rfl)
theorem noOwnUnsafe : Tryd.pinned.checked.prog.headLifts.contains "ownunsafe" = false := by kernel_rfl
theorem tie : Tryd.prog.laidByTextLater [("loop.example/pub-g03031/pub/circl/cipher/ascon.ErrKeySize", Rows.laid_loop_example_pub_g03031_pub_circl_cipher_ascon_ErrKeySize), ("loop.example/pub-g03031/pub/circl/cipher/ascon.ErrMode", Rows.laid_loop_example_pub_g03031_pub_circl_cipher_ascon_ErrMode)] [.sentinel, .sentinel] true :=
  Program.laidByTextLater.sub seatTie1 ["loop.example/pub-g03031/pub/circl/cipher/ascon.ErrKeySize", "loop.example/pub-g03031/pub/circl/cipher/ascon.ErrMode"] (by kernel_rfl) (by kernel_rfl)
theorem fnSizes_row_tie : Rows.fnSizesRow.laidByTextAt .later Tryd.pinned [.sentinel, .sentinel] true :=
  OpenClaim.laidByTextAt_later rfl rfl tie noOwnUnsafe
theorem tie2 : Tryd.prog.laidByTextLater [("loop.example/pub-g03031/pub/circl/cipher/ascon.ErrKeySize", Rows.laid_loop_example_pub_g03031_pub_circl_cipher_ascon_ErrKeySize), ("loop.example/pub-g03031/pub/circl/cipher/ascon.ErrNonceSize", Rows.laid_loop_example_pub_g03031_pub_circl_cipher_ascon_ErrNonceSize), ("loop.example/pub-g03031/pub/circl/cipher/ascon.ErrMode", Rows.laid_loop_example_pub_g03031_pub_circl_cipher_ascon_ErrMode)] [.sentinel, .sentinel, .sentinel] true :=
  Program.laidByTextLater.sub seatTie1 ["loop.example/pub-g03031/pub/circl/cipher/ascon.ErrKeySize", "loop.example/pub-g03031/pub/circl/cipher/ascon.ErrNonceSize", "loop.example/pub-g03031/pub/circl/cipher/ascon.ErrMode"] (by kernel_rfl) (by kernel_rfl)
theorem fnSealIs_row_tie : Rows.fnSealIsRow.laidByTextAt .later Tryd.pinned [.sentinel, .sentinel, .sentinel] true :=
  OpenClaim.laidByTextAt_later rfl rfl tie2 noOwnUnsafe
theorem fnSealPrefix_row_tie : Rows.fnSealPrefixRow.laidByTextAt .later Tryd.pinned [.sentinel, .sentinel, .sentinel] true :=
  OpenClaim.laidByTextAt_later rfl rfl tie2 noOwnUnsafe
theorem tie3 : Tryd.prog.laidByTextLater [("loop.example/pub-g03031/pub/circl/cipher/ascon.ErrKeySize", Rows.laid_loop_example_pub_g03031_pub_circl_cipher_ascon_ErrKeySize), ("loop.example/pub-g03031/pub/circl/cipher/ascon.ErrNonceSize", Rows.laid_loop_example_pub_g03031_pub_circl_cipher_ascon_ErrNonceSize), ("loop.example/pub-g03031/pub/circl/cipher/ascon.ErrDecryption", Rows.laid_loop_example_pub_g03031_pub_circl_cipher_ascon_ErrDecryption), ("loop.example/pub-g03031/pub/circl/cipher/ascon.ErrMode", Rows.laid_loop_example_pub_g03031_pub_circl_cipher_ascon_ErrMode)] [.sentinel, .sentinel, .sentinel, .sentinel] true :=
  Program.laidByTextLater.sub seatTie1 ["loop.example/pub-g03031/pub/circl/cipher/ascon.ErrKeySize", "loop.example/pub-g03031/pub/circl/cipher/ascon.ErrNonceSize", "loop.example/pub-g03031/pub/circl/cipher/ascon.ErrDecryption", "loop.example/pub-g03031/pub/circl/cipher/ascon.ErrMode"] (by kernel_rfl) (by kernel_rfl)
theorem fnOpenIs_row_tie : Rows.fnOpenIsRow.laidByTextAt .later Tryd.pinned [.sentinel, .sentinel, .sentinel, .sentinel] true :=
  OpenClaim.laidByTextAt_later rfl rfl tie3 noOwnUnsafe
theorem fnOpenShort_row_tie : Rows.fnOpenShortRow.laidByTextAt .later Tryd.pinned [.sentinel, .sentinel, .sentinel, .sentinel] true :=
  OpenClaim.laidByTextAt_later rfl rfl tie3 noOwnUnsafe
theorem fnOpenSeal_row_tie : Rows.fnOpenSealRow.laidByTextAt .later Tryd.pinned [.sentinel, .sentinel, .sentinel, .sentinel] true :=
  OpenClaim.laidByTextAt_later rfl rfl tie3 noOwnUnsafe
theorem fnOpenTurned_row_tie : Rows.fnOpenTurnedRow.laidByTextAt .later Tryd.pinned [.sentinel, .sentinel, .sentinel, .sentinel] true :=
  OpenClaim.laidByTextAt_later rfl rfl tie3 noOwnUnsafe
theorem fnSealBehind_row_tie : Rows.fnSealBehindRow.laidByTextAt .later Tryd.pinned [.sentinel, .sentinel, .sentinel, .sentinel] true :=
  OpenClaim.laidByTextAt_later rfl rfl tie3 noOwnUnsafe
theorem fnSizesUpto_row_tie : Rows.fnSizesUptoRow.laidByTextAt .later Tryd.pinned [.sentinel, .sentinel] true :=
  OpenClaim.laidByTextAt_later rfl rfl tie noOwnUnsafe
theorem fnSealIsUpto_row_tie : Rows.fnSealIsUptoRow.laidByTextAt .later Tryd.pinned [.sentinel, .sentinel, .sentinel] true :=
  OpenClaim.laidByTextAt_later rfl rfl tie2 noOwnUnsafe
theorem fnSealPrefixUpto_row_tie : Rows.fnSealPrefixUptoRow.laidByTextAt .later Tryd.pinned [.sentinel, .sentinel, .sentinel] true :=
  OpenClaim.laidByTextAt_later rfl rfl tie2 noOwnUnsafe
theorem fnOpenIsUpto_row_tie : Rows.fnOpenIsUptoRow.laidByTextAt .later Tryd.pinned [.sentinel, .sentinel, .sentinel, .sentinel] true :=
  OpenClaim.laidByTextAt_later rfl rfl tie3 noOwnUnsafe
theorem fnOpenShortUpto_row_tie : Rows.fnOpenShortUptoRow.laidByTextAt .later Tryd.pinned [.sentinel, .sentinel, .sentinel, .sentinel] true :=
  OpenClaim.laidByTextAt_later rfl rfl tie3 noOwnUnsafe
theorem fnOpenSealUpto_row_tie : Rows.fnOpenSealUptoRow.laidByTextAt .later Tryd.pinned [.sentinel, .sentinel, .sentinel, .sentinel] true :=
  OpenClaim.laidByTextAt_later rfl rfl tie3 noOwnUnsafe
theorem fnOpenTurnedUpto_row_tie : Rows.fnOpenTurnedUptoRow.laidByTextAt .later Tryd.pinned [.sentinel, .sentinel, .sentinel, .sentinel] true :=
  OpenClaim.laidByTextAt_later rfl rfl tie3 noOwnUnsafe
theorem fnSealBehindUpto_row_tie : Rows.fnSealBehindUptoRow.laidByTextAt .later Tryd.pinned [.sentinel, .sentinel, .sentinel, .sentinel] true :=
  OpenClaim.laidByTextAt_later rfl rfl tie3 noOwnUnsafe
end Go.Proofs.YtfilandehjmikaaDoor
