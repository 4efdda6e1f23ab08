/- Part 30 of the proof. -/
import Derived.Test.YtmpkgkjnoanlhaaGreatDoorChecked
import Derived.JoinedOf
import GoSem.ClaimSeven
import GoSem.ClaimGoes
import GoSem.ClaimLaidByText
import Derived.Test.YtmpkgkjnoanlhaaGreatDoorP04
namespace Go.Proofs.YtmpkgkjnoanlhaaGreatDoor
open Go Go.ChangeShapes Go.WideShapes Go.ChangeAt Go.WideMaps Go.WideElems Go.RowKit
set_option maxRecDepth 100000
theorem wit_shapedc (os : Os) : (((World.doorLaid Tryz.prog 400 os).forCall (fun _ _ => 0) ⟨#[], #[.agg #[.bool false, .int .u64 0, .int .i64 0], .agg #[.bool false, .int .u64 0, .int .i64 0], .agg #[.bool false, .int .u64 0, .int .i64 0], .int .i64 0], []⟩)).Shaped Tryz.prog :=
 World.shaped_of_RefB (by as_aux_lemma => kernel_rfl) (by as_aux_lemma => kernel_rfl)
theorem wit_okc (os : Os) : Input.okWideB Tryz.prog ((World.doorLaid Tryz.prog 400 os).forCall (fun _ _ => 0) ⟨#[], #[.agg #[.bool false, .int .u64 0, .int .i64 0], .agg #[.bool false, .int .u64 0, .int .i64 0], .agg #[.bool false, .int .u64 0, .int .i64 0], .int .i64 0], []⟩) 5 ⟨#[], #[.agg #[.bool false, .int .u64 0, .int .i64 0], .agg #[.bool false, .int .u64 0, .int .i64 0], .agg #[.bool false, .int .u64 0, .int .i64 0], .int .i64 0], []⟩ = true := by kernel_rfl
theorem wit_prec (os : Os) (H : Type) (enc : TypeId × Value → H) : Rows.fnFixAddMulExactSpec.preB enc Tryz.prog Tryz.f5 [] false (((World.doorLaid Tryz.prog 400 os).forCall (fun _ _ => 0) ⟨#[], #[.agg #[.bool false, .int .u64 0, .int .i64 0], .agg #[.bool false, .int .u64 0, .int .i64 0], .agg #[.bool false, .int .u64 0, .int .i64 0], .int .i64 0], []⟩)).memory #[.agg #[.bool false, .int .u64 0, .int .i64 0], .agg #[.bool false, .int .u64 0, .int .i64 0], .agg #[.bool false, .int .u64 0, .int .i64 0], .int .i64 0] 8 = true := by kernel_rfl
theorem wit_sizec (os : Os) (H : Type) (enc : TypeId × Value → H) : Rows.fnFixAddMulExactSpec.sizedB enc Tryz.prog Tryz.f5 false (((World.doorLaid Tryz.prog 400 os).forCall (fun _ _ => 0) ⟨#[], #[.agg #[.bool false, .int .u64 0, .int .i64 0], .agg #[.bool false, .int .u64 0, .int .i64 0], .agg #[.bool false, .int .u64 0, .int .i64 0], .int .i64 0], []⟩)).memory #[.agg #[.bool false, .int .u64 0, .int .i64 0], .agg #[.bool false, .int .u64 0, .int .i64 0], .agg #[.bool false, .int .u64 0, .int .i64 0], .int .i64 0] 8 = true := by kernel_rfl
end Go.Proofs.YtmpkgkjnoanlhaaGreatDoor
namespace Go.Proofs.YtmpkgkjnoanlhaaGreatDoor
open Go
set_option maxRecDepth 100000
theorem and2c {a b : Bool} (ha : a = true) (hb : b = true) : (a && b) = true := by rw [ha, hb]; rfl
set_option maxHeartbeats 4000000 in
theorem row_closedc : joinedFacts Tryz.prog 5 Tryz.f5 Rows.fnFixAddMulExactSpec Rows.fnFixAddMulExactRow = true := by
 unfold joinedFacts
 repeat' (with_reducible refine and2c ?_ ?_)
 all_goals (as_aux_lemma => kernel_rfl)
theorem row_funcc : Tryz.prog.funcNamed "given.example/pub-alexandrine/laws.FnFixAddMulExact" = some 5 := by kernel_rfl
theorem row_wfc : Rows.fnFixAddMulExactRow.wfByText (OpenSpec.ofChange Rows.fnFixAddMulExactSpec) = true := by kernel_rfl
theorem row_looksc : false = Tryz.prog.looks [] := by kernel_rfl
theorem row_standc : ([24, 24, 24, 3].all fun u => !Tryz.prog.wantsStandIn u) = true := by kernel_rfl
theorem row_goesc : false = Rows.fnFixAddMulExactRow.goesBy Tryz.prog := by kernel_rfl
end Go.Proofs.YtmpkgkjnoanlhaaGreatDoor
