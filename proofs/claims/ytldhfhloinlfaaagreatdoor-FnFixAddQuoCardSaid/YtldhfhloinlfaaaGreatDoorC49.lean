/- Part 49 of the proof. -/
import Derived.Test.YtldhfhloinlfaaaGreatDoorRows
import Derived.Test.YtldhfhloinlfaaaGreatDoorProg
import Derived.JoinedOf
import GoSem.ClaimSeven
import GoSem.ClaimGoes
import GoSem.ClaimLaidByText
import Derived.Test.YtldhfhloinlfaaaGreatDoorC00
namespace Go.Proofs.YtldhfhloinlfaaaGreatDoor
open Go
set_option maxRecDepth 100000
theorem and2j {a b : Bool} (ha : a = true) (hb : b = true) : (a && b) = true := by rw [ha, hb]; rfl
set_option maxHeartbeats 4000000 in
theorem row_closedj : joinedFacts Tryz.prog 10 Tryz.f10 Rows.fnFixAddQuoSpec Rows.fnFixAddQuoRow = true := by
 unfold joinedFacts
 repeat' (with_reducible refine and2j ?_ ?_)
 all_goals (as_aux_lemma => kernel_rfl)
theorem row_funcj : Tryz.prog.funcNamed "given.example/pub-alexandrine/laws.FnFixAddQuo" = some 10 := by kernel_rfl
theorem row_wfj : Rows.fnFixAddQuoRow.wfByText (OpenSpec.ofChange Rows.fnFixAddQuoSpec) = true := by kernel_rfl
theorem row_looksj : false = Tryz.prog.looks [] := by kernel_rfl
theorem row_standj : ([24, 24, 24].all fun u => !Tryz.prog.wantsStandIn u) = true := by kernel_rfl
theorem row_goesj : false = Rows.fnFixAddQuoRow.goesBy Tryz.prog := by kernel_rfl
end Go.Proofs.YtldhfhloinlfaaaGreatDoor
