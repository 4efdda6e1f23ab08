/- Part 41 of the proof. -/
import Derived.Test.YtldhfhloinlfaaaGreatDoorC24
namespace Go.Proofs.YtldhfhloinlfaaaGreatDoor
open Go.RowKit
set_option linter.unusedVariables false
set_option linter.unusedSimpArgs false
set_option maxRecDepth 20000
def PO (P : Bool → Option (Nat × Nat) → Prop) (w : World) (e : Ending) (w' : World) : Prop := ∃ sg o, P sg o ∧ e = .returned (fixOut sg o) ∧ Chg (fun _ => False) w w'
end Go.Proofs.YtldhfhloinlfaaaGreatDoor
