/-
  DERIVED. GIVEN WITH THE SEED: THE PROGRAM's TIES (one call each: nine closed facts by the kernel) AND EACH ROW's TIE, after the 31st guide's Derived/Test/Toyas{Tie, Card}.lean. No idea stands in it: it is a product of the set-up. Laid BY PROGRAM, IN A SANDBOX (cutbox-door.mjs). By AI agents, Wed Nov 11 2026. No macro, syntax, notation, axiom, sorry.
-/
import Derived.Test.YtldhfhloinlfaaaGreatDoorRows
import Derived.LaidByTextLater
import Derived.SevenTiedAt
import Derived.LaidSub
import Derived.LaidOnce
namespace Go.Proofs.YtldhfhloinlfaaaGreatDoor
open Go
set_option maxRecDepth 100000
theorem seatTie1 : Tryz.prog.laidByTextLater [("math/bits.deBruijn32tab", Rows.laid_math_bits_deBruijn32tab), ("math/bits.deBruijn64tab", Rows.laid_math_bits_deBruijn64tab), ("given.example/pub-alexandrine/pub/bigall.leafSize", Rows.laid_given_example_pub_alexandrine_pub_bigall_leafSize), ("given.example/pub-alexandrine/pub/bigall.divRecursiveThreshold", Rows.laid_given_example_pub_alexandrine_pub_bigall_divRecursiveThreshold), ("given.example/pub-alexandrine/pub/bigall.karatsubaThreshold", Rows.laid_given_example_pub_alexandrine_pub_bigall_karatsubaThreshold), ("given.example/pub-alexandrine/pub/bigall.basicSqrThreshold", Rows.laid_given_example_pub_alexandrine_pub_bigall_basicSqrThreshold), ("given.example/pub-alexandrine/pub/bigall.karatsubaSqrThreshold", Rows.laid_given_example_pub_alexandrine_pub_bigall_karatsubaSqrThreshold), ("given.example/pub-alexandrine/pub/govalues.errDecimalOverflow", Rows.laid_given_example_pub_alexandrine_pub_govalues_errDecimalOverflow), ("given.example/pub-alexandrine/pub/govalues.errScaleRange", Rows.laid_given_example_pub_alexandrine_pub_govalues_errScaleRange), ("given.example/pub-alexandrine/pub/govalues.errInexactDivision", Rows.laid_given_example_pub_alexandrine_pub_govalues_errInexactDivision), ("given.example/pub-alexandrine/pub/govalues.pow10", Rows.laid_given_example_pub_alexandrine_pub_govalues_pow10)] [.data, .data, .data, .data, .data, .data, .data, .sentinel, .sentinel, .sentinel, .data] true :=
  Program.laidByTextLater_by_one 101 8 65 (by kernel_rfl) (by kernel_rfl) (by kernel_rfl) (by kernel_rfl) (by kernel_rfl) (by kernel_rfl) (fun _ _ => by kernel_rfl)
theorem noOwnUnsafe : Tryz.pinned.checked.prog.headLifts.contains "ownunsafe" = false := by kernel_rfl
theorem tie : Tryz.prog.laidByTextLater [("math/bits.deBruijn32tab", Rows.laid_math_bits_deBruijn32tab), ("math/bits.deBruijn64tab", Rows.laid_math_bits_deBruijn64tab), ("given.example/pub-alexandrine/pub/bigall.leafSize", Rows.laid_given_example_pub_alexandrine_pub_bigall_leafSize), ("given.example/pub-alexandrine/pub/bigall.divRecursiveThreshold", Rows.laid_given_example_pub_alexandrine_pub_bigall_divRecursiveThreshold), ("given.example/pub-alexandrine/pub/bigall.karatsubaThreshold", Rows.laid_given_example_pub_alexandrine_pub_bigall_karatsubaThreshold), ("given.example/pub-alexandrine/pub/bigall.basicSqrThreshold", Rows.laid_given_example_pub_alexandrine_pub_bigall_basicSqrThreshold), ("given.example/pub-alexandrine/pub/bigall.karatsubaSqrThreshold", Rows.laid_given_example_pub_alexandrine_pub_bigall_karatsubaSqrThreshold), ("given.example/pub-alexandrine/pub/govalues.errDecimalOverflow", Rows.laid_given_example_pub_alexandrine_pub_govalues_errDecimalOverflow), ("given.example/pub-alexandrine/pub/govalues.errScaleRange", Rows.laid_given_example_pub_alexandrine_pub_govalues_errScaleRange), ("given.example/pub-alexandrine/pub/govalues.pow10", Rows.laid_given_example_pub_alexandrine_pub_govalues_pow10)] [.data, .data, .data, .data, .data, .data, .data, .sentinel, .sentinel, .data] true :=
  Program.laidByTextLater.sub seatTie1 ["math/bits.deBruijn32tab", "math/bits.deBruijn64tab", "given.example/pub-alexandrine/pub/bigall.leafSize", "given.example/pub-alexandrine/pub/bigall.divRecursiveThreshold", "given.example/pub-alexandrine/pub/bigall.karatsubaThreshold", "given.example/pub-alexandrine/pub/bigall.basicSqrThreshold", "given.example/pub-alexandrine/pub/bigall.karatsubaSqrThreshold", "given.example/pub-alexandrine/pub/govalues.errDecimalOverflow", "given.example/pub-alexandrine/pub/govalues.errScaleRange", "given.example/pub-alexandrine/pub/govalues.pow10"] (by kernel_rfl) (by kernel_rfl)
theorem fnFixSubExact_row_tie : Rows.fnFixSubExactRow.laidByTextAt .later Tryz.pinned [.data, .data, .data, .data, .data, .data, .data, .sentinel, .sentinel, .data] true :=
  OpenClaim.laidByTextAt_later rfl rfl tie noOwnUnsafe
theorem fnFixAddQuoBig_row_tie : Rows.fnFixAddQuoBigRow.laidByTextAt .later Tryz.pinned [.data, .data, .data, .data, .data, .data, .data, .sentinel, .sentinel, .data] true :=
  OpenClaim.laidByTextAt_later rfl rfl tie noOwnUnsafe
theorem fnFixPlaces_row_tie : Rows.fnFixPlacesRow.laidByTextAt .later Tryz.pinned [.data, .data, .data, .data, .data, .data, .data, .sentinel, .sentinel, .data] true :=
  OpenClaim.laidByTextAt_later rfl rfl tie noOwnUnsafe
theorem tie2 : Tryz.prog.laidByTextLater [("math/bits.deBruijn32tab", Rows.laid_math_bits_deBruijn32tab), ("math/bits.deBruijn64tab", Rows.laid_math_bits_deBruijn64tab), ("given.example/pub-alexandrine/pub/bigall.leafSize", Rows.laid_given_example_pub_alexandrine_pub_bigall_leafSize), ("given.example/pub-alexandrine/pub/bigall.divRecursiveThreshold", Rows.laid_given_example_pub_alexandrine_pub_bigall_divRecursiveThreshold), ("given.example/pub-alexandrine/pub/bigall.karatsubaThreshold", Rows.laid_given_example_pub_alexandrine_pub_bigall_karatsubaThreshold), ("given.example/pub-alexandrine/pub/bigall.basicSqrThreshold", Rows.laid_given_example_pub_alexandrine_pub_bigall_basicSqrThreshold), ("given.example/pub-alexandrine/pub/bigall.karatsubaSqrThreshold", Rows.laid_given_example_pub_alexandrine_pub_bigall_karatsubaSqrThreshold), ("given.example/pub-alexandrine/pub/govalues.errDecimalOverflow", Rows.laid_given_example_pub_alexandrine_pub_govalues_errDecimalOverflow), ("given.example/pub-alexandrine/pub/govalues.errScaleRange", Rows.laid_given_example_pub_alexandrine_pub_govalues_errScaleRange), ("given.example/pub-alexandrine/pub/govalues.errInexactDivision", Rows.laid_given_example_pub_alexandrine_pub_govalues_errInexactDivision), ("given.example/pub-alexandrine/pub/govalues.pow10", Rows.laid_given_example_pub_alexandrine_pub_govalues_pow10)] [.data, .data, .data, .data, .data, .data, .data, .sentinel, .sentinel, .sentinel, .data] true :=
  Program.laidByTextLater.sub seatTie1 ["math/bits.deBruijn32tab", "math/bits.deBruijn64tab", "given.example/pub-alexandrine/pub/bigall.leafSize", "given.example/pub-alexandrine/pub/bigall.divRecursiveThreshold", "given.example/pub-alexandrine/pub/bigall.karatsubaThreshold", "given.example/pub-alexandrine/pub/bigall.basicSqrThreshold", "given.example/pub-alexandrine/pub/bigall.karatsubaSqrThreshold", "given.example/pub-alexandrine/pub/govalues.errDecimalOverflow", "given.example/pub-alexandrine/pub/govalues.errScaleRange", "given.example/pub-alexandrine/pub/govalues.errInexactDivision", "given.example/pub-alexandrine/pub/govalues.pow10"] (by kernel_rfl) (by kernel_rfl)
theorem fnFixQuoSmall_row_tie : Rows.fnFixQuoSmallRow.laidByTextAt .later Tryz.pinned [.data, .data, .data, .data, .data, .data, .data, .sentinel, .sentinel, .sentinel, .data] true :=
  OpenClaim.laidByTextAt_later rfl rfl tie2 noOwnUnsafe
theorem fnFixQuoExact_row_tie : Rows.fnFixQuoExactRow.laidByTextAt .later Tryz.pinned [.data, .data, .data, .data, .data, .data, .data, .sentinel, .sentinel, .sentinel, .data] true :=
  OpenClaim.laidByTextAt_later rfl rfl tie2 noOwnUnsafe
theorem fnFixAddQuoExact_row_tie : Rows.fnFixAddQuoExactRow.laidByTextAt .later Tryz.pinned [.data, .data, .data, .data, .data, .data, .data, .sentinel, .sentinel, .sentinel, .data] true :=
  OpenClaim.laidByTextAt_later rfl rfl tie2 noOwnUnsafe
theorem fnFixSubQuoExact_row_tie : Rows.fnFixSubQuoExactRow.laidByTextAt .later Tryz.pinned [.data, .data, .data, .data, .data, .data, .data, .sentinel, .sentinel, .sentinel, .data] true :=
  OpenClaim.laidByTextAt_later rfl rfl tie2 noOwnUnsafe
theorem fnFixAddQuo_row_tie : Rows.fnFixAddQuoRow.laidByTextAt .later Tryz.pinned [.data, .data, .data, .data, .data, .data, .data, .sentinel, .sentinel, .sentinel, .data] true :=
  OpenClaim.laidByTextAt_later rfl rfl tie2 noOwnUnsafe
theorem fnFixSubQuo_row_tie : Rows.fnFixSubQuoRow.laidByTextAt .later Tryz.pinned [.data, .data, .data, .data, .data, .data, .data, .sentinel, .sentinel, .sentinel, .data] true :=
  OpenClaim.laidByTextAt_later rfl rfl tie2 noOwnUnsafe
theorem fnFixSubExactUpto_row_tie : Rows.fnFixSubExactUptoRow.laidByTextAt .later Tryz.pinned [.data, .data, .data, .data, .data, .data, .data, .sentinel, .sentinel, .data] true :=
  OpenClaim.laidByTextAt_later rfl rfl tie noOwnUnsafe
theorem fnFixAddQuoBigUpto_row_tie : Rows.fnFixAddQuoBigUptoRow.laidByTextAt .later Tryz.pinned [.data, .data, .data, .data, .data, .data, .data, .sentinel, .sentinel, .data] true :=
  OpenClaim.laidByTextAt_later rfl rfl tie noOwnUnsafe
theorem fnFixQuoSmallUpto_row_tie : Rows.fnFixQuoSmallUptoRow.laidByTextAt .later Tryz.pinned [.data, .data, .data, .data, .data, .data, .data, .sentinel, .sentinel, .sentinel, .data] true :=
  OpenClaim.laidByTextAt_later rfl rfl tie2 noOwnUnsafe
theorem fnFixQuoExactUpto_row_tie : Rows.fnFixQuoExactUptoRow.laidByTextAt .later Tryz.pinned [.data, .data, .data, .data, .data, .data, .data, .sentinel, .sentinel, .sentinel, .data] true :=
  OpenClaim.laidByTextAt_later rfl rfl tie2 noOwnUnsafe
theorem fnFixAddQuoExactUpto_row_tie : Rows.fnFixAddQuoExactUptoRow.laidByTextAt .later Tryz.pinned [.data, .data, .data, .data, .data, .data, .data, .sentinel, .sentinel, .sentinel, .data] true :=
  OpenClaim.laidByTextAt_later rfl rfl tie2 noOwnUnsafe
theorem fnFixSubQuoExactUpto_row_tie : Rows.fnFixSubQuoExactUptoRow.laidByTextAt .later Tryz.pinned [.data, .data, .data, .data, .data, .data, .data, .sentinel, .sentinel, .sentinel, .data] true :=
  OpenClaim.laidByTextAt_later rfl rfl tie2 noOwnUnsafe
theorem fnFixPlacesUpto_row_tie : Rows.fnFixPlacesUptoRow.laidByTextAt .later Tryz.pinned [.data, .data, .data, .data, .data, .data, .data, .sentinel, .sentinel, .data] true :=
  OpenClaim.laidByTextAt_later rfl rfl tie noOwnUnsafe
theorem fnFixAddQuoUpto_row_tie : Rows.fnFixAddQuoUptoRow.laidByTextAt .later Tryz.pinned [.data, .data, .data, .data, .data, .data, .data, .sentinel, .sentinel, .sentinel, .data] true :=
  OpenClaim.laidByTextAt_later rfl rfl tie2 noOwnUnsafe
theorem fnFixSubQuoUpto_row_tie : Rows.fnFixSubQuoUptoRow.laidByTextAt .later Tryz.pinned [.data, .data, .data, .data, .data, .data, .data, .sentinel, .sentinel, .sentinel, .data] true :=
  OpenClaim.laidByTextAt_later rfl rfl tie2 noOwnUnsafe
end Go.Proofs.YtldhfhloinlfaaaGreatDoor
