/-
  DERIVED. GIVEN WITH THE SEED: THE PROGRAM's TIES (one call each: nine closed facts by the kernel) AND EACH ROW's TIE, after the 31st guide's Derived/Test/Toyas{Tie, Card}.lean. No idea stands in it: it is a product of the set-up. Laid BY PROGRAM, IN A SANDBOX (cutbox-door.mjs). By AI agents, Wed Nov 11 2026. No macro, syntax, notation, axiom, sorry.
-/
import Derived.Test.YtmpkgkjnoanlhaaGreatDoorRows
import Derived.LaidByTextLater
import Derived.SevenTiedAt
import Derived.LaidSub
import Derived.LaidOnce
namespace Go.Proofs.YtmpkgkjnoanlhaaGreatDoor
open Go
set_option maxRecDepth 100000
theorem seatTie1 : Tryz.prog.laidByTextLater [("math/bits.deBruijn32tab", Rows.laid_math_bits_deBruijn32tab), ("math/bits.deBruijn64tab", Rows.laid_math_bits_deBruijn64tab), ("given.example/pub-alexandrine/pub/bigall.leafSize", Rows.laid_given_example_pub_alexandrine_pub_bigall_leafSize), ("given.example/pub-alexandrine/pub/bigall.divRecursiveThreshold", Rows.laid_given_example_pub_alexandrine_pub_bigall_divRecursiveThreshold), ("given.example/pub-alexandrine/pub/bigall.karatsubaThreshold", Rows.laid_given_example_pub_alexandrine_pub_bigall_karatsubaThreshold), ("given.example/pub-alexandrine/pub/bigall.basicSqrThreshold", Rows.laid_given_example_pub_alexandrine_pub_bigall_basicSqrThreshold), ("given.example/pub-alexandrine/pub/bigall.karatsubaSqrThreshold", Rows.laid_given_example_pub_alexandrine_pub_bigall_karatsubaSqrThreshold), ("given.example/pub-alexandrine/pub/govalues.errDecimalOverflow", Rows.laid_given_example_pub_alexandrine_pub_govalues_errDecimalOverflow), ("given.example/pub-alexandrine/pub/govalues.errScaleRange", Rows.laid_given_example_pub_alexandrine_pub_govalues_errScaleRange), ("given.example/pub-alexandrine/pub/govalues.pow10", Rows.laid_given_example_pub_alexandrine_pub_govalues_pow10)] [.data, .data, .data, .data, .data, .data, .data, .sentinel, .sentinel, .data] true :=
  Program.laidByTextLater_by_one 82 8 65 (by kernel_rfl) (by kernel_rfl) (by kernel_rfl) (by kernel_rfl) (by kernel_rfl) (by kernel_rfl) (fun _ _ => by kernel_rfl)
theorem noOwnUnsafe : Tryz.pinned.checked.prog.headLifts.contains "ownunsafe" = false := by kernel_rfl
theorem tie : Tryz.prog.laidByTextLater [("math/bits.deBruijn32tab", Rows.laid_math_bits_deBruijn32tab), ("math/bits.deBruijn64tab", Rows.laid_math_bits_deBruijn64tab), ("given.example/pub-alexandrine/pub/bigall.leafSize", Rows.laid_given_example_pub_alexandrine_pub_bigall_leafSize), ("given.example/pub-alexandrine/pub/bigall.divRecursiveThreshold", Rows.laid_given_example_pub_alexandrine_pub_bigall_divRecursiveThreshold), ("given.example/pub-alexandrine/pub/bigall.karatsubaThreshold", Rows.laid_given_example_pub_alexandrine_pub_bigall_karatsubaThreshold), ("given.example/pub-alexandrine/pub/bigall.basicSqrThreshold", Rows.laid_given_example_pub_alexandrine_pub_bigall_basicSqrThreshold), ("given.example/pub-alexandrine/pub/bigall.karatsubaSqrThreshold", Rows.laid_given_example_pub_alexandrine_pub_bigall_karatsubaSqrThreshold), ("given.example/pub-alexandrine/pub/govalues.errDecimalOverflow", Rows.laid_given_example_pub_alexandrine_pub_govalues_errDecimalOverflow), ("given.example/pub-alexandrine/pub/govalues.errScaleRange", Rows.laid_given_example_pub_alexandrine_pub_govalues_errScaleRange), ("given.example/pub-alexandrine/pub/govalues.pow10", Rows.laid_given_example_pub_alexandrine_pub_govalues_pow10)] [.data, .data, .data, .data, .data, .data, .data, .sentinel, .sentinel, .data] true :=
  Program.laidByTextLater.sub seatTie1 ["math/bits.deBruijn32tab", "math/bits.deBruijn64tab", "given.example/pub-alexandrine/pub/bigall.leafSize", "given.example/pub-alexandrine/pub/bigall.divRecursiveThreshold", "given.example/pub-alexandrine/pub/bigall.karatsubaThreshold", "given.example/pub-alexandrine/pub/bigall.basicSqrThreshold", "given.example/pub-alexandrine/pub/bigall.karatsubaSqrThreshold", "given.example/pub-alexandrine/pub/govalues.errDecimalOverflow", "given.example/pub-alexandrine/pub/govalues.errScaleRange", "given.example/pub-alexandrine/pub/govalues.pow10"] (by kernel_rfl) (by kernel_rfl)
theorem fnFixSubExact_row_tie : Rows.fnFixSubExactRow.laidByTextAt .later Tryz.pinned [.data, .data, .data, .data, .data, .data, .data, .sentinel, .sentinel, .data] true :=
  OpenClaim.laidByTextAt_later rfl rfl tie noOwnUnsafe
theorem fnFixAddMulBig_row_tie : Rows.fnFixAddMulBigRow.laidByTextAt .later Tryz.pinned [.data, .data, .data, .data, .data, .data, .data, .sentinel, .sentinel, .data] true :=
  OpenClaim.laidByTextAt_later rfl rfl tie noOwnUnsafe
theorem fnFixAddMulExact_row_tie : Rows.fnFixAddMulExactRow.laidByTextAt .later Tryz.pinned [.data, .data, .data, .data, .data, .data, .data, .sentinel, .sentinel, .data] true :=
  OpenClaim.laidByTextAt_later rfl rfl tie noOwnUnsafe
theorem fnFixSubMulExact_row_tie : Rows.fnFixSubMulExactRow.laidByTextAt .later Tryz.pinned [.data, .data, .data, .data, .data, .data, .data, .sentinel, .sentinel, .data] true :=
  OpenClaim.laidByTextAt_later rfl rfl tie noOwnUnsafe
theorem fnFixSubExactUpto_row_tie : Rows.fnFixSubExactUptoRow.laidByTextAt .later Tryz.pinned [.data, .data, .data, .data, .data, .data, .data, .sentinel, .sentinel, .data] true :=
  OpenClaim.laidByTextAt_later rfl rfl tie noOwnUnsafe
theorem fnFixAddMulBigUpto_row_tie : Rows.fnFixAddMulBigUptoRow.laidByTextAt .later Tryz.pinned [.data, .data, .data, .data, .data, .data, .data, .sentinel, .sentinel, .data] true :=
  OpenClaim.laidByTextAt_later rfl rfl tie noOwnUnsafe
theorem fnFixAddMulExactUpto_row_tie : Rows.fnFixAddMulExactUptoRow.laidByTextAt .later Tryz.pinned [.data, .data, .data, .data, .data, .data, .data, .sentinel, .sentinel, .data] true :=
  OpenClaim.laidByTextAt_later rfl rfl tie noOwnUnsafe
theorem fnFixSubMulExactUpto_row_tie : Rows.fnFixSubMulExactUptoRow.laidByTextAt .later Tryz.pinned [.data, .data, .data, .data, .data, .data, .data, .sentinel, .sentinel, .data] true :=
  OpenClaim.laidByTextAt_later rfl rfl tie noOwnUnsafe
end Go.Proofs.YtmpkgkjnoanlhaaGreatDoor
