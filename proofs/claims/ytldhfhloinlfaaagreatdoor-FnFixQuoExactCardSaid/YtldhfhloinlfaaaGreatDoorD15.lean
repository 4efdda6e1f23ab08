/- Part 15 of the rest of the proof. -/
import Derived.Test.YtldhfhloinlfaaaGreatDoorRows
import Derived.Test.YtldhfhloinlfaaaGreatDoorProg
import Derived.JoinedOf
import Derived.KernelRfl
import GoSem.ClaimSeven
import GoSem.ClaimGoes
import GoSem.ClaimLaidByText
import Derived.Test.YtldhfhloinlfaaaGreatDoorC00
namespace Go.Proofs.YtldhfhloinlfaaaGreatDoor
open Go
set_option maxRecDepth 100000
theorem and2g {a b : Bool} (ha : a = true) (hb : b = true) : (a && b) = true := by rw [ha, hb]; rfl
set_option maxHeartbeats 4000000 in
theorem row_closedg : joinedFacts Tryz.prog 6 Tryz.f6 Rows.fnFixQuoExactSpec Rows.fnFixQuoExactRow = true := by
 unfold joinedFacts
 repeat' (with_reducible refine and2g ?_ ?_)
 all_goals (as_aux_lemma => kernel_rfl)
theorem row_funcg : Tryz.prog.funcNamed "given.example/pub-alexandrine/laws.FnFixQuoExact" = some 6 := by kernel_rfl
theorem row_wfg : Rows.fnFixQuoExactRow.wfByText (OpenSpec.ofChange Rows.fnFixQuoExactSpec) = true := by kernel_rfl
theorem row_looksg : false = Tryz.prog.looks [] := by kernel_rfl
theorem row_standg : ([24, 24, 3].all fun u => !Tryz.prog.wantsStandIn u) = true := by kernel_rfl
theorem row_goesg : false = Rows.fnFixQuoExactRow.goesBy Tryz.prog := by kernel_rfl
end Go.Proofs.YtldhfhloinlfaaaGreatDoor
