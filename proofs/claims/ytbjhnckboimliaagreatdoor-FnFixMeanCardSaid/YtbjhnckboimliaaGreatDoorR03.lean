/- Part 3 of the rest of the proof. -/
import Derived.Test.YtbjhnckboimliaaGreatDoorRows
import Derived.Test.YtbjhnckboimliaaGreatDoorProg
import Derived.JoinedOf
import Derived.KernelRfl
import GoSem.ClaimSeven
import GoSem.ClaimGoes
import GoSem.ClaimLaidByText
import Derived.Test.YtbjhnckboimliaaGreatDoorQ00
namespace Go.Proofs.YtbjhnckboimliaaGreatDoor
open Go
set_option maxRecDepth 100000
theorem and2n {a b : Bool} (ha : a = true) (hb : b = true) : (a && b) = true := by rw [ha, hb]; rfl
set_option maxHeartbeats 4000000 in
theorem row_closedn : joinedFacts Tryz.prog 7 Tryz.f7 Rows.fnFixMeanSpec Rows.fnFixMeanRow = true := by
 unfold joinedFacts
 repeat' (with_reducible refine and2n ?_ ?_)
 all_goals (as_aux_lemma => kernel_rfl)
theorem row_funcn : Tryz.prog.funcNamed "given.example/pub-alexandrine/laws.FnFixMean" = some 7 := by kernel_rfl
theorem row_wfn : Rows.fnFixMeanRow.wfByText (OpenSpec.ofChange Rows.fnFixMeanSpec) = true := by kernel_rfl
theorem row_looksn : false = Tryz.prog.looks [] := by kernel_rfl
theorem row_standn : ([42].all fun u => !Tryz.prog.wantsStandIn u) = true := by kernel_rfl
theorem row_goesn : false = Rows.fnFixMeanRow.goesBy Tryz.prog := by kernel_rfl
end Go.Proofs.YtbjhnckboimliaaGreatDoor
