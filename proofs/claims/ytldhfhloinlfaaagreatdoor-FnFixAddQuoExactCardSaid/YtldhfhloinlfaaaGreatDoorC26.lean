/- Part 26 of the proof. -/
import Derived.Test.YtldhfhloinlfaaaGreatDoorRows
import Derived.Test.YtldhfhloinlfaaaGreatDoorProg
import Derived.JoinedOf
import GoSem.ClaimSeven
import GoSem.ClaimGoes
import GoSem.ClaimLaidByText
import Derived.Test.YtldhfhloinlfaaaGreatDoorC00
namespace Go.Proofs.YtldhfhloinlfaaaGreatDoor
open Go
set_option maxRecDepth 100000
theorem and2h {a b : Bool} (ha : a = true) (hb : b = true) : (a && b) = true := by rw [ha, hb]; rfl
set_option maxHeartbeats 4000000 in
theorem row_closedh : joinedFacts Tryz.prog 7 Tryz.f7 Rows.fnFixAddQuoExactSpec Rows.fnFixAddQuoExactRow = true := by
 unfold joinedFacts
 repeat' (with_reducible refine and2h ?_ ?_)
 all_goals (as_aux_lemma => kernel_rfl)
theorem row_funch : Tryz.prog.funcNamed "given.example/pub-alexandrine/laws.FnFixAddQuoExact" = some 7 := by kernel_rfl
theorem row_wfh : Rows.fnFixAddQuoExactRow.wfByText (OpenSpec.ofChange Rows.fnFixAddQuoExactSpec) = true := by kernel_rfl
theorem row_looksh : false = Tryz.prog.looks [] := by kernel_rfl
theorem row_standh : ([24, 24, 24, 3].all fun u => !Tryz.prog.wantsStandIn u) = true := by kernel_rfl
theorem row_goesh : false = Rows.fnFixAddQuoExactRow.goesBy Tryz.prog := by kernel_rfl
end Go.Proofs.YtldhfhloinlfaaaGreatDoor
