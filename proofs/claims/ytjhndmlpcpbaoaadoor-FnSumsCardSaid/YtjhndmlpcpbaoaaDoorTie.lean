/-
  DERIVED. GIVEN WITH THE SEED: THE PROGRAM's TIES (one call each: nine closed facts by the kernel) AND EACH ROW's TIE, after the 31st guide's Derived/Test/Toyas{Tie, Card}.lean. No idea stands in it: it is a product of the set-up. Laid BY PROGRAM, IN A SANDBOX (cutbox-door.mjs). By AI agents, Wed Nov 11 2026. No macro, syntax, notation, axiom, sorry.
-/
import Derived.Test.YtjhndmlpcpbaoaaDoorRows
import Derived.LaidByTextLater
import Derived.SevenTiedAt
import Derived.LaidSub
import Derived.LaidOnce
namespace Go.Proofs.YtjhndmlpcpbaoaaDoor
open Go
set_option maxRecDepth 100000
theorem seatTie1 : Tryd.prog.laidByTextLater [("loop.example/pub-g03123/pub/crypto/blake2b.iv", Rows.laid_loop_example_pub_g03123_pub_crypto_blake2b_iv), ("loop.example/pub-g03123/pub/crypto/blake2b.precomputed", Rows.laid_loop_example_pub_g03123_pub_crypto_blake2b_precomputed), ("loop.example/pub-g03123/pub/crypto/blake2s.iv", Rows.laid_loop_example_pub_g03123_pub_crypto_blake2s_iv), ("loop.example/pub-g03123/pub/crypto/blake2s.precomputed", Rows.laid_loop_example_pub_g03123_pub_crypto_blake2s_precomputed)] [.data, .widerDeep, .data, .widerDeep] true :=
  Program.laidByTextLater_by_one 51 8 193 (by kernel_rfl) (by kernel_rfl) (by kernel_rfl) (by kernel_rfl) (by kernel_rfl) (by kernel_rfl) (fun _ _ => by kernel_rfl)
theorem noOwnUnsafe : Tryd.pinned.checked.prog.headLifts.contains "ownunsafe" = false := by kernel_rfl
theorem tie : Tryd.prog.laidByTextLater [("loop.example/pub-g03123/pub/crypto/blake2b.iv", Rows.laid_loop_example_pub_g03123_pub_crypto_blake2b_iv), ("loop.example/pub-g03123/pub/crypto/blake2b.precomputed", Rows.laid_loop_example_pub_g03123_pub_crypto_blake2b_precomputed), ("loop.example/pub-g03123/pub/crypto/blake2s.iv", Rows.laid_loop_example_pub_g03123_pub_crypto_blake2s_iv), ("loop.example/pub-g03123/pub/crypto/blake2s.precomputed", Rows.laid_loop_example_pub_g03123_pub_crypto_blake2s_precomputed)] [.data, .widerDeep, .data, .widerDeep] true :=
  Program.laidByTextLater.sub seatTie1 ["loop.example/pub-g03123/pub/crypto/blake2b.iv", "loop.example/pub-g03123/pub/crypto/blake2b.precomputed", "loop.example/pub-g03123/pub/crypto/blake2s.iv", "loop.example/pub-g03123/pub/crypto/blake2s.precomputed"] (by kernel_rfl) (by kernel_rfl)
theorem fnSums_row_tie : Rows.fnSumsRow.laidByTextAt .later Tryd.pinned [.data, .widerDeep, .data, .widerDeep] true :=
  OpenClaim.laidByTextAt_later rfl rfl tie noOwnUnsafe
theorem fnSumsUpto_row_tie : Rows.fnSumsUptoRow.laidByTextAt .later Tryd.pinned [.data, .widerDeep, .data, .widerDeep] true :=
  OpenClaim.laidByTextAt_later rfl rfl tie noOwnUnsafe
end Go.Proofs.YtjhndmlpcpbaoaaDoor
