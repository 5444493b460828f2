/-
  DERIVED. GIVEN WITH THE SEED: THE PROGRAM's TIES (one call each: nine closed facts by the kernel) AND EACH ROW's TIE, after the 31st guide's Derived/Test/Toyas{Tie, Card}.lean. No idea stands in it: it is a product of the set-up. Laid BY PROGRAM, IN A SANDBOX (cutbox-door.mjs). By AI agents, Wed Nov 11 2026. No macro, syntax, notation, axiom, sorry.
-/
import Derived.Test.YtdhnmhefdmlbiaaDoorRows
import Derived.LaidByTextLater
import Derived.SevenTiedAt
import Derived.LaidSub
import Derived.LaidOnce
namespace Go.Proofs.YtdhnmhefdmlbiaaDoor
open Go
set_option maxRecDepth 100000
theorem seatTie1 : Tryd.prog.laidByTextLater [("loop.example/pub-g03123/pub/crypto/blake2b.errKeySize", Rows.laid_loop_example_pub_g03123_pub_crypto_blake2b_errKeySize), ("loop.example/pub-g03123/pub/crypto/blake2b.errHashSize", Rows.laid_loop_example_pub_g03123_pub_crypto_blake2b_errHashSize), ("loop.example/pub-g03123/pub/crypto/blake2b.iv", Rows.laid_loop_example_pub_g03123_pub_crypto_blake2b_iv), ("loop.example/pub-g03123/pub/crypto/blake2s.errKeySize", Rows.laid_loop_example_pub_g03123_pub_crypto_blake2s_errKeySize), ("loop.example/pub-g03123/pub/crypto/blake2s.iv", Rows.laid_loop_example_pub_g03123_pub_crypto_blake2s_iv)] [.sentinel, .sentinel, .data, .sentinel, .data] true :=
  Program.laidByTextLater_by_one 76 8 9 (by kernel_rfl) (by kernel_rfl) (by kernel_rfl) (by kernel_rfl) (by kernel_rfl) (by kernel_rfl) (fun _ _ => by kernel_rfl)
theorem noOwnUnsafe : Tryd.pinned.checked.prog.headLifts.contains "ownunsafe" = false := by kernel_rfl
theorem tie : Tryd.prog.laidByTextLater [("loop.example/pub-g03123/pub/crypto/blake2b.errKeySize", Rows.laid_loop_example_pub_g03123_pub_crypto_blake2b_errKeySize), ("loop.example/pub-g03123/pub/crypto/blake2b.errHashSize", Rows.laid_loop_example_pub_g03123_pub_crypto_blake2b_errHashSize), ("loop.example/pub-g03123/pub/crypto/blake2b.iv", Rows.laid_loop_example_pub_g03123_pub_crypto_blake2b_iv), ("loop.example/pub-g03123/pub/crypto/blake2s.errKeySize", Rows.laid_loop_example_pub_g03123_pub_crypto_blake2s_errKeySize), ("loop.example/pub-g03123/pub/crypto/blake2s.iv", Rows.laid_loop_example_pub_g03123_pub_crypto_blake2s_iv)] [.sentinel, .sentinel, .data, .sentinel, .data] true :=
  Program.laidByTextLater.sub seatTie1 ["loop.example/pub-g03123/pub/crypto/blake2b.errKeySize", "loop.example/pub-g03123/pub/crypto/blake2b.errHashSize", "loop.example/pub-g03123/pub/crypto/blake2b.iv", "loop.example/pub-g03123/pub/crypto/blake2s.errKeySize", "loop.example/pub-g03123/pub/crypto/blake2s.iv"] (by kernel_rfl) (by kernel_rfl)
theorem fnSizes_row_tie : Rows.fnSizesRow.laidByTextAt .later Tryd.pinned [.sentinel, .sentinel, .data, .sentinel, .data] true :=
  OpenClaim.laidByTextAt_later rfl rfl tie noOwnUnsafe
theorem fnSizesUpto_row_tie : Rows.fnSizesUptoRow.laidByTextAt .later Tryd.pinned [.sentinel, .sentinel, .data, .sentinel, .data] true :=
  OpenClaim.laidByTextAt_later rfl rfl tie noOwnUnsafe
end Go.Proofs.YtdhnmhefdmlbiaaDoor
