/- Part 1 of the rest of the proof. -/
import Derived.Test.YtbjhnckboimliaaGreatDoorRows
import Derived.Test.YtbjhnckboimliaaGreatDoorProg
import Derived.JoinedOf
import Derived.KernelRfl
import GoSem.ClaimSeven
import GoSem.ClaimGoes
import GoSem.ClaimLaidByText
import Derived.Test.YtbjhnckboimliaaGreatDoorQ00
namespace Go.Proofs.YtbjhnckboimliaaGreatDoor
open Go
set_option maxRecDepth 100000
theorem and2o {a b : Bool} (ha : a = true) (hb : b = true) : (a && b) = true := by rw [ha, hb]; rfl
set_option maxHeartbeats 4000000 in
theorem row_closedo : joinedFacts Tryz.prog 6 Tryz.f6 Rows.fnFixProdSpec Rows.fnFixProdRow = true := by
 unfold joinedFacts
 repeat' (with_reducible refine and2o ?_ ?_)
 all_goals (as_aux_lemma => kernel_rfl)
theorem row_funco : Tryz.prog.funcNamed "given.example/pub-alexandrine/laws.FnFixProd" = some 6 := by kernel_rfl
theorem row_wfo : Rows.fnFixProdRow.wfByText (OpenSpec.ofChange Rows.fnFixProdSpec) = true := by kernel_rfl
theorem row_lookso : false = Tryz.prog.looks [] := by kernel_rfl
theorem row_stando : ([42].all fun u => !Tryz.prog.wantsStandIn u) = true := by kernel_rfl
theorem row_goeso : false = Rows.fnFixProdRow.goesBy Tryz.prog := by kernel_rfl
end Go.Proofs.YtbjhnckboimliaaGreatDoor
