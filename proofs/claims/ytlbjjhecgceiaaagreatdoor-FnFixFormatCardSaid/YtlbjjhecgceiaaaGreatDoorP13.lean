/- Part 13 of the proof. -/
import Derived.Test.YtlbjjhecgceiaaaGreatDoorRows
import Derived.Test.YtlbjjhecgceiaaaGreatDoorProg
import Derived.JoinedOf
import GoSem.ClaimSeven
import GoSem.ClaimGoes
import GoSem.ClaimLaidByText
import Derived.Test.YtlbjjhecgceiaaaGreatDoorP00
namespace Go.Proofs.YtlbjjhecgceiaaaGreatDoor
open Go
set_option maxRecDepth 100000
theorem and2q {a b : Bool} (ha : a = true) (hb : b = true) : (a && b) = true := by rw [ha, hb]; rfl
set_option maxHeartbeats 4000000 in
theorem row_closedq : joinedFacts Tryz.prog 5 Tryz.f5 Rows.fnFixFormatSpec Rows.fnFixFormatRow = true := by
 unfold joinedFacts
 repeat' (with_reducible refine and2q ?_ ?_)
 all_goals (as_aux_lemma => kernel_rfl)
theorem row_funcq : Tryz.prog.funcNamed "given.example/pub-alexandrine/laws.FnFixFormat" = some 5 := by kernel_rfl
theorem row_wfq : Rows.fnFixFormatRow.wfByText (OpenSpec.ofChange Rows.fnFixFormatSpec) = true := by kernel_rfl
theorem row_looksq : false = Tryz.prog.looks [] := by kernel_rfl
theorem row_standq : ([24, 5, 9, 3, 3].all fun u => !Tryz.prog.wantsStandIn u) = true := by kernel_rfl
theorem row_goesq : false = Rows.fnFixFormatRow.goesBy Tryz.prog := by kernel_rfl
end Go.Proofs.YtlbjjhecgceiaaaGreatDoor
