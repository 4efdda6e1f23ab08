/- Part 14 of the proof. -/
import Derived.Shelf.Small.Bits
import Derived.Shelf.Strconv.Itoa0
import Derived.Shelf.Bits.Mul64
import Derived.Lib.AppendZeros
import Derived.Laws.AppendOwn
import Derived.Test.YtlbjjhecgceiaaaGreatDoorP11
namespace Go.Proofs.YtlbjjhecgceiaaaGreatDoor
open Go.RowKit
set_option linter.unusedVariables false
set_option linter.unusedSimpArgs false
set_option maxRecDepth 20000
theorem and1 (x : Int) (hx : Wd x) : bits .and .u64 x 1 = x % 2 :=
 bits_mask .u64 64 (by decide) (fun n h0 h1 => IntWalk.u64_in n ⟨h0, by omega⟩) 1 (by decide) x hx.1 hx.2
end Go.Proofs.YtlbjjhecgceiaaaGreatDoor
