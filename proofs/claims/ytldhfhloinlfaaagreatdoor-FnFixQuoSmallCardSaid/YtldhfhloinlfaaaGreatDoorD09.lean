/- Part 9 of the rest of the proof. -/
import Derived.Test.YtldhfhloinlfaaaGreatDoorRows
import Derived.Test.YtldhfhloinlfaaaGreatDoorProg
import Derived.JoinedOf
import Derived.KernelRfl
import GoSem.ClaimSeven
import GoSem.ClaimGoes
import GoSem.ClaimLaidByText
import Derived.Test.YtldhfhloinlfaaaGreatDoorC00
namespace Go.Proofs.YtldhfhloinlfaaaGreatDoor
open Go
set_option maxRecDepth 100000
theorem and2f {a b : Bool} (ha : a = true) (hb : b = true) : (a && b) = true := by rw [ha, hb]; rfl
set_option maxHeartbeats 4000000 in
theorem row_closedf : joinedFacts Tryz.prog 5 Tryz.f5 Rows.fnFixQuoSmallSpec Rows.fnFixQuoSmallRow = true := by
 unfold joinedFacts
 repeat' (with_reducible refine and2f ?_ ?_)
 all_goals (as_aux_lemma => kernel_rfl)
theorem row_funcf : Tryz.prog.funcNamed "given.example/pub-alexandrine/laws.FnFixQuoSmall" = some 5 := by kernel_rfl
theorem row_wff : Rows.fnFixQuoSmallRow.wfByText (OpenSpec.ofChange Rows.fnFixQuoSmallSpec) = true := by kernel_rfl
theorem row_looksf : false = Tryz.prog.looks [] := by kernel_rfl
theorem row_standf : ([24, 24, 3].all fun u => !Tryz.prog.wantsStandIn u) = true := by kernel_rfl
theorem row_goesf : false = Rows.fnFixQuoSmallRow.goesBy Tryz.prog := by kernel_rfl
end Go.Proofs.YtldhfhloinlfaaaGreatDoor
