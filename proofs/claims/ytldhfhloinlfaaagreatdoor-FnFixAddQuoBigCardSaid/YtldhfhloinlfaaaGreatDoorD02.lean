/- Part 2 of the rest of the proof. -/
import Derived.Test.YtldhfhloinlfaaaGreatDoorRows
import Derived.Test.YtldhfhloinlfaaaGreatDoorProg
import Derived.JoinedOf
import Derived.KernelRfl
import GoSem.ClaimSeven
import GoSem.ClaimGoes
import GoSem.ClaimLaidByText
import Derived.Test.YtldhfhloinlfaaaGreatDoorC00
namespace Go.Proofs.YtldhfhloinlfaaaGreatDoor
open Go
set_option maxRecDepth 100000
theorem and2e {a b : Bool} (ha : a = true) (hb : b = true) : (a && b) = true := by rw [ha, hb]; rfl
set_option maxHeartbeats 4000000 in
theorem row_closede : joinedFacts Tryz.prog 4 Tryz.f4 Rows.fnFixAddQuoBigSpec Rows.fnFixAddQuoBigRow = true := by
 unfold joinedFacts
 repeat' (with_reducible refine and2e ?_ ?_)
 all_goals (as_aux_lemma => kernel_rfl)
theorem row_funce : Tryz.prog.funcNamed "given.example/pub-alexandrine/laws.FnFixAddQuoBig" = some 4 := by kernel_rfl
theorem row_wfe : Rows.fnFixAddQuoBigRow.wfByText (OpenSpec.ofChange Rows.fnFixAddQuoBigSpec) = true := by kernel_rfl
theorem row_lookse : false = Tryz.prog.looks [] := by kernel_rfl
theorem row_stande : ([24, 24, 24, 3].all fun u => !Tryz.prog.wantsStandIn u) = true := by kernel_rfl
theorem row_goese : false = Rows.fnFixAddQuoBigRow.goesBy Tryz.prog := by kernel_rfl
end Go.Proofs.YtldhfhloinlfaaaGreatDoor
